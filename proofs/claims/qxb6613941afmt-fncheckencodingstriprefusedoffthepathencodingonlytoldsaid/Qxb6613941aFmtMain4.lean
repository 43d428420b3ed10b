/-
  Seat b6613941aF. THE LAW's WALK (4).
-/
import Derived.Test.Qxb6613941aFmtMain3
namespace Go.Proofs.Qxb6613941aFmt
open Go.RowKit Go.Extern.Stop Go.Stop Go.Extern
set_option linter.unusedVariables false

set_option maxHeartbeats 3200000 in
theorem bytes4 (enc : Int) (has : Bool) (x1 x2 x3 x4 x5 x6 x7 : ByteArray) (h1 : x1.size ≤ 9223372036854775807) (h2 : x2.size ≤ 9223372036854775807) (h3 : x3.size ≤ 9223372036854775807) (h4 : x4.size ≤ 9223372036854775807) (h5 : x5.size ≤ 9223372036854775807) (h6 : x6.size ≤ 9223372036854775807) (h7 : x7.size ≤ 9223372036854775807) (w : World) :
    Calls Tryf.prog 9 #[.int .i64 enc, .bool has, .string x1, .string x2, .string x3, .string x4, .string x5, .string x6, .string x7] w fun e w' => ∃ b : Bool, e = .returned (.bool b) ∧ w' = w := by
  go_enter Tryf.func9, Tryf.ntmps9
  go_wp2
  all_goals
    go_ret
    exact ⟨_, rfl, rfl⟩

set_option maxRecDepth 100000 in
set_option maxHeartbeats 3200000 in
theorem main4_zf (F : Interp) (host repo sec pft path opft opath : ByteArray) (h1 : host.size ≤ 9223372036854775807) (h2 : repo.size ≤ 9223372036854775807) (h3 : sec.size ≤ 9223372036854775807) (h4 : pft.size ≤ 9223372036854775807) (h5 : path.size ≤ 9223372036854775807) (h6 : opft.size ≤ 9223372036854775807) (h7 : opath.size ≤ 9223372036854775807)
    (w : World) (hF : F.answers w.tape) :
    Calls Tryf.prog 4 #[.int .i64 0, .bool false, .string host, .string repo, .string sec, .string pft, .string path, .string opft, .string opath] w fun e w' => e = .returned (.bool true) ∧ Below w.heap.size w w' := by
  go_enter Tryf.func4, Tryf.ntmps4
  go_wp2_with fail
  refine (bytes4 0 false host repo sec pft path opft opath h1 h2 h3 h4 h5 h6 h7 w).mono ?_; rintro e w' ⟨b, rfl, rfl⟩
  cases b
  · go_wp2_with fail
    go_ret
    exact ⟨rfl, Below.refl _ _⟩
  go_wp2_with fail
  all_goals try (go_ret; exact ⟨rfl, Below.refl _ _⟩)
  have b0 := Below.refl w'.heap.size w'
  have g0 : Reg w' none false repo := ⟨.inl ⟨rfl, rfl⟩⟩
  refine (fields_any _).mono ?_; rintro e w1 ⟨s, rfl, E1, b1⟩
  have B1 := b0.trans (b1.mono (by simp))
  have g1 := g0.below b1
  clear b0 b1 g0
  go_wp2_with fail
  refine (newEntry_any none 0 true pft _).mono ?_; rintro e w2 ⟨rfl, o2, rfl⟩
  have b2 := (Below.refl w1.heap.size w1).alloc (Nat.le_refl _) o2
  have B2 := B1.trans (b2.mono B1.size)
  have E2 := E1.below b2
  have g2 := g1.below b2
  clear b2 E1 g1 B1
  generalize w1.alloc o2 = w2x at *
  go_wp2_with fail
  refine (zz_no F s none 0 true false repo pft path _ (answers_below hF B2) E2 g2 (by simp [refused])).mono ?_; rintro e w3 ⟨rfl, b3⟩
  have B3 := B2.trans (b3.mono B2.size)
  have E3 := E2.below b3
  have g3 := g2.below b3
  clear b3 E2 g2 B2
  go_wp2_with fail
  refine (newEntry_any none 0 false pft _).mono ?_; rintro e w4 ⟨rfl, o4, rfl⟩
  have b4 := (Below.refl w3.heap.size w3).alloc (Nat.le_refl _) o4
  have B4 := B3.trans (b4.mono B3.size)
  have E4 := E3.below b4
  have g4 := g3.below b4
  clear b4 E3 g3 B3
  generalize w3.alloc o4 = w4x at *
  go_wp2_with fail
  refine (zz_no F s none 0 false false repo pft path _ (answers_below hF B4) E4 g4 (by simp [refused])).mono ?_; rintro e w5 ⟨rfl, b5⟩
  have B5 := B4.trans (b5.mono B4.size)
  have E5 := E4.below b5
  have g5 := g4.below b5
  clear b5 E4 g4 B4
  go_wp2_with fail
  refine (newEntry_any none 0 false opft _).mono ?_; rintro e w6 ⟨rfl, o6, rfl⟩
  have b6 := (Below.refl w5.heap.size w5).alloc (Nat.le_refl _) o6
  have B6 := B5.trans (b6.mono B5.size)
  have E6 := E5.below b6
  have g6 := g5.below b6
  clear b6 E5 g5 B5
  generalize w5.alloc o6 = w6x at *
  go_wp2_with fail
  refine (zz_no F s none 0 false false repo opft opath _ (answers_below hF B6) E6 g6 (by simp [refused])).mono ?_; rintro e w7 ⟨rfl, b7⟩
  have B7 := B6.trans (b7.mono B6.size)
  have E7 := E6.below b7
  have g7 := g6.below b7
  clear b7 E6 g6 B6
  go_wp2_with fail
  go_ret
  exact ⟨by first | rfl | simp, B7⟩

set_option maxRecDepth 100000 in
set_option maxHeartbeats 3200000 in
theorem main4_zt (F : Interp) (host repo sec pft path opft opath : ByteArray) (h1 : host.size ≤ 9223372036854775807) (h2 : repo.size ≤ 9223372036854775807) (h3 : sec.size ≤ 9223372036854775807) (h4 : pft.size ≤ 9223372036854775807) (h5 : path.size ≤ 9223372036854775807) (h6 : opft.size ≤ 9223372036854775807) (h7 : opath.size ≤ 9223372036854775807)
    (w : World) (hF : F.answers w.tape) :
    Calls Tryf.prog 4 #[.int .i64 0, .bool true, .string host, .string repo, .string sec, .string pft, .string path, .string opft, .string opath] w fun e w' => e = .returned (.bool true) ∧ Below w.heap.size w w' := by
  go_enter Tryf.func4, Tryf.ntmps4
  go_wp2_with fail
  refine (bytes4 0 true host repo sec pft path opft opath h1 h2 h3 h4 h5 h6 h7 w).mono ?_; rintro e w' ⟨b, rfl, rfl⟩
  cases b
  · go_wp2_with fail
    go_ret
    exact ⟨rfl, Below.refl _ _⟩
  go_wp2_with fail
  all_goals try (go_ret; exact ⟨rfl, Below.refl _ _⟩)
  have b0 := (Below.refl w'.heap.size w').alloc (Nat.le_refl _) (.cells #[.string host, .string repo, .string sec] 25)
  have g0 : Reg (w'.alloc (.cells #[.string host, .string repo, .string sec] 25)) (some ⟨w'.heap.size, 0, none⟩) true repo := ⟨.inr ⟨rfl, _, rfl, by simp, by go_simp⟩⟩
  refine (fields_any _).mono ?_; rintro e w1 ⟨s, rfl, E1, b1⟩
  have B1 := b0.trans (b1.mono (by simp))
  have g1 := g0.below b1
  clear b0 b1 g0
  go_wp2_with fail
  refine (newEntry_any (some ⟨w'.heap.size, 0, none⟩) 0 true pft _).mono ?_; rintro e w2 ⟨rfl, o2, rfl⟩
  have b2 := (Below.refl w1.heap.size w1).alloc (Nat.le_refl _) o2
  have B2 := B1.trans (b2.mono B1.size)
  have E2 := E1.below b2
  have g2 := g1.below b2
  clear b2 E1 g1 B1
  generalize w1.alloc o2 = w2x at *
  go_wp2_with fail
  refine (zz_no F s (some ⟨w'.heap.size, 0, none⟩) 0 true true repo pft path _ (answers_below hF B2) E2 g2 (by simp [refused])).mono ?_; rintro e w3 ⟨rfl, b3⟩
  have B3 := B2.trans (b3.mono B2.size)
  have E3 := E2.below b3
  have g3 := g2.below b3
  clear b3 E2 g2 B2
  go_wp2_with fail
  refine (newEntry_any (some ⟨w'.heap.size, 0, none⟩) 0 false pft _).mono ?_; rintro e w4 ⟨rfl, o4, rfl⟩
  have b4 := (Below.refl w3.heap.size w3).alloc (Nat.le_refl _) o4
  have B4 := B3.trans (b4.mono B3.size)
  have E4 := E3.below b4
  have g4 := g3.below b4
  clear b4 E3 g3 B3
  generalize w3.alloc o4 = w4x at *
  go_wp2_with fail
  refine (zz_no F s (some ⟨w'.heap.size, 0, none⟩) 0 false true repo pft path _ (answers_below hF B4) E4 g4 (by simp [refused])).mono ?_; rintro e w5 ⟨rfl, b5⟩
  have B5 := B4.trans (b5.mono B4.size)
  have E5 := E4.below b5
  have g5 := g4.below b5
  clear b5 E4 g4 B4
  go_wp2_with fail
  refine (newEntry_any (some ⟨w'.heap.size, 0, none⟩) 0 false opft _).mono ?_; rintro e w6 ⟨rfl, o6, rfl⟩
  have b6 := (Below.refl w5.heap.size w5).alloc (Nat.le_refl _) o6
  have B6 := B5.trans (b6.mono B5.size)
  have E6 := E5.below b6
  have g6 := g5.below b6
  clear b6 E5 g5 B5
  generalize w5.alloc o6 = w6x at *
  go_wp2_with fail
  refine (zz_no F s (some ⟨w'.heap.size, 0, none⟩) 0 false true repo opft opath _ (answers_below hF B6) E6 g6 (by simp [refused])).mono ?_; rintro e w7 ⟨rfl, b7⟩
  have B7 := B6.trans (b7.mono B6.size)
  have E7 := E6.below b7
  have g7 := g6.below b7
  clear b7 E6 g6 B6
  go_wp2_with fail
  go_ret
  exact ⟨by first | rfl | simp, B7⟩

set_option maxRecDepth 100000 in
set_option maxHeartbeats 3200000 in
theorem main4_nf (F : Interp) (enc : Int) (host repo sec pft path opft opath : ByteArray) (h1 : host.size ≤ 9223372036854775807) (h2 : repo.size ≤ 9223372036854775807) (h3 : sec.size ≤ 9223372036854775807) (h4 : pft.size ≤ 9223372036854775807) (h5 : path.size ≤ 9223372036854775807) (h6 : opft.size ≤ 9223372036854775807) (h7 : opath.size ≤ 9223372036854775807)
    (w : World) (hF : F.answers w.tape) (E0 : (enc == 0) = false) (E0n : (enc != 0) = true) (E2 : (enc == 2) = false) :
    Calls Tryf.prog 4 #[.int .i64 enc, .bool false, .string host, .string repo, .string sec, .string pft, .string path, .string opft, .string opath] w fun e w' => e = .returned (.bool true) ∧ Below w.heap.size w w' := by
  go_enter Tryf.func4, Tryf.ntmps4
  go_wp2_with fail
  refine (bytes4 enc false host repo sec pft path opft opath h1 h2 h3 h4 h5 h6 h7 w).mono ?_; rintro e w' ⟨b, rfl, rfl⟩
  cases b
  · go_wp2_with fail
    go_ret
    exact ⟨rfl, Below.refl _ _⟩
  go_wp2_with fail
  all_goals try (go_ret; exact ⟨rfl, Below.refl _ _⟩)
  have b0 := Below.refl w'.heap.size w'
  have g0 : Reg w' none false repo := ⟨.inl ⟨rfl, rfl⟩⟩
  refine (fields_any _).mono ?_; rintro e w1 ⟨s, rfl, E1, b1⟩
  have B1 := b0.trans (b1.mono (by simp))
  have g1 := g0.below b1
  clear b0 b1 g0
  go_wp2_with fail
  refine (newEntry_any none enc true pft _).mono ?_; rintro e w2 ⟨rfl, o2, rfl⟩
  have b2 := (Below.refl w1.heap.size w1).alloc (Nat.le_refl _) o2
  have B2 := B1.trans (b2.mono B1.size)
  have E2 := E1.below b2
  have g2 := g1.below b2
  clear b2 E1 g1 B1
  generalize w1.alloc o2 = w2x at *
  go_wp2_with fail
  refine (zz_yes F s none enc true false repo pft path _ (answers_below hF B2) E2 g2 (by simp [refused, E0])).mono ?_; rintro e w3 ⟨v3, rfl, b3⟩
  have B3 := B2.trans (b3.mono B2.size)
  have E3 := E2.below b3
  have g3 := g2.below b3
  clear b3 E2 g2 B2
  go_wp2_with fail
  refine (newEntry_any none enc false pft _).mono ?_; rintro e w4 ⟨rfl, o4, rfl⟩
  have b4 := (Below.refl w3.heap.size w3).alloc (Nat.le_refl _) o4
  have B4 := B3.trans (b4.mono B3.size)
  have E4 := E3.below b4
  have g4 := g3.below b4
  clear b4 E3 g3 B3
  generalize w3.alloc o4 = w4x at *
  go_wp2_with fail
  refine (zz_no F s none enc false false repo pft path _ (answers_below hF B4) E4 g4 (by simp [refused, E2])).mono ?_; rintro e w5 ⟨rfl, b5⟩
  have B5 := B4.trans (b5.mono B4.size)
  have E5 := E4.below b5
  have g5 := g4.below b5
  clear b5 E4 g4 B4
  go_wp2_with fail
  refine (newEntry_any none enc false opft _).mono ?_; rintro e w6 ⟨rfl, o6, rfl⟩
  have b6 := (Below.refl w5.heap.size w5).alloc (Nat.le_refl _) o6
  have B6 := B5.trans (b6.mono B5.size)
  have E6 := E5.below b6
  have g6 := g5.below b6
  clear b6 E5 g5 B5
  generalize w5.alloc o6 = w6x at *
  go_wp2_with fail
  refine (zz_no F s none enc false false repo opft opath _ (answers_below hF B6) E6 g6 (by simp [refused, E2])).mono ?_; rintro e w7 ⟨rfl, b7⟩
  have B7 := B6.trans (b7.mono B6.size)
  have E7 := E6.below b7
  have g7 := g6.below b7
  clear b7 E6 g6 B6
  go_wp2_with fail
  go_ret
  exact ⟨by first | rfl | simp, B7⟩

set_option maxRecDepth 100000 in
set_option maxHeartbeats 3200000 in
theorem main4_nt (F : Interp) (enc : Int) (host repo sec pft path opft opath : ByteArray) (h1 : host.size ≤ 9223372036854775807) (h2 : repo.size ≤ 9223372036854775807) (h3 : sec.size ≤ 9223372036854775807) (h4 : pft.size ≤ 9223372036854775807) (h5 : path.size ≤ 9223372036854775807) (h6 : opft.size ≤ 9223372036854775807) (h7 : opath.size ≤ 9223372036854775807)
    (w : World) (hF : F.answers w.tape) (E0 : (enc == 0) = false) (E0n : (enc != 0) = true) (E2 : (enc == 2) = false) :
    Calls Tryf.prog 4 #[.int .i64 enc, .bool true, .string host, .string repo, .string sec, .string pft, .string path, .string opft, .string opath] w fun e w' => e = .returned (.bool true) ∧ Below w.heap.size w w' := by
  go_enter Tryf.func4, Tryf.ntmps4
  go_wp2_with fail
  refine (bytes4 enc true host repo sec pft path opft opath h1 h2 h3 h4 h5 h6 h7 w).mono ?_; rintro e w' ⟨b, rfl, rfl⟩
  cases b
  · go_wp2_with fail
    go_ret
    exact ⟨rfl, Below.refl _ _⟩
  go_wp2_with fail
  all_goals try (go_ret; exact ⟨rfl, Below.refl _ _⟩)
  have b0 := (Below.refl w'.heap.size w').alloc (Nat.le_refl _) (.cells #[.string host, .string repo, .string sec] 25)
  have g0 : Reg (w'.alloc (.cells #[.string host, .string repo, .string sec] 25)) (some ⟨w'.heap.size, 0, none⟩) true repo := ⟨.inr ⟨rfl, _, rfl, by simp, by go_simp⟩⟩
  refine (fields_any _).mono ?_; rintro e w1 ⟨s, rfl, E1, b1⟩
  have B1 := b0.trans (b1.mono (by simp))
  have g1 := g0.below b1
  clear b0 b1 g0
  go_wp2_with fail
  refine (newEntry_any (some ⟨w'.heap.size, 0, none⟩) enc true pft _).mono ?_; rintro e w2 ⟨rfl, o2, rfl⟩
  have b2 := (Below.refl w1.heap.size w1).alloc (Nat.le_refl _) o2
  have B2 := B1.trans (b2.mono B1.size)
  have E2 := E1.below b2
  have g2 := g1.below b2
  clear b2 E1 g1 B1
  generalize w1.alloc o2 = w2x at *
  go_wp2_with fail
  refine (zz_yes F s (some ⟨w'.heap.size, 0, none⟩) enc true true repo pft path _ (answers_below hF B2) E2 g2 (by simp [refused, E0])).mono ?_; rintro e w3 ⟨v3, rfl, b3⟩
  have B3 := B2.trans (b3.mono B2.size)
  have E3 := E2.below b3
  have g3 := g2.below b3
  clear b3 E2 g2 B2
  go_wp2_with fail
  refine (newEntry_any (some ⟨w'.heap.size, 0, none⟩) enc false pft _).mono ?_; rintro e w4 ⟨rfl, o4, rfl⟩
  have b4 := (Below.refl w3.heap.size w3).alloc (Nat.le_refl _) o4
  have B4 := B3.trans (b4.mono B3.size)
  have E4 := E3.below b4
  have g4 := g3.below b4
  clear b4 E3 g3 B3
  generalize w3.alloc o4 = w4x at *
  go_wp2_with fail
  refine (zz_no F s (some ⟨w'.heap.size, 0, none⟩) enc false true repo pft path _ (answers_below hF B4) E4 g4 (by simp [refused, E2])).mono ?_; rintro e w5 ⟨rfl, b5⟩
  have B5 := B4.trans (b5.mono B4.size)
  have E5 := E4.below b5
  have g5 := g4.below b5
  clear b5 E4 g4 B4
  go_wp2_with fail
  refine (newEntry_any (some ⟨w'.heap.size, 0, none⟩) enc false opft _).mono ?_; rintro e w6 ⟨rfl, o6, rfl⟩
  have b6 := (Below.refl w5.heap.size w5).alloc (Nat.le_refl _) o6
  have B6 := B5.trans (b6.mono B5.size)
  have E6 := E5.below b6
  have g6 := g5.below b6
  clear b6 E5 g5 B5
  generalize w5.alloc o6 = w6x at *
  go_wp2_with fail
  refine (zz_no F s (some ⟨w'.heap.size, 0, none⟩) enc false true repo opft opath _ (answers_below hF B6) E6 g6 (by simp [refused, E2])).mono ?_; rintro e w7 ⟨rfl, b7⟩
  have B7 := B6.trans (b7.mono B6.size)
  have E7 := E6.below b7
  have g7 := g6.below b7
  clear b7 E6 g6 B6
  go_wp2_with fail
  go_ret
  exact ⟨by first | rfl | simp, B7⟩

set_option maxRecDepth 100000 in
set_option maxHeartbeats 3200000 in
theorem main4_2f (F : Interp) (host repo sec pft path opft opath : ByteArray) (h1 : host.size ≤ 9223372036854775807) (h2 : repo.size ≤ 9223372036854775807) (h3 : sec.size ≤ 9223372036854775807) (h4 : pft.size ≤ 9223372036854775807) (h5 : path.size ≤ 9223372036854775807) (h6 : opft.size ≤ 9223372036854775807) (h7 : opath.size ≤ 9223372036854775807)
    (w : World) (hF : F.answers w.tape) :
    Calls Tryf.prog 4 #[.int .i64 2, .bool false, .string host, .string repo, .string sec, .string pft, .string path, .string opft, .string opath] w fun e w' => e = .returned (.bool true) ∧ Below w.heap.size w w' := by
  go_enter Tryf.func4, Tryf.ntmps4
  go_wp2_with fail
  refine (bytes4 2 false host repo sec pft path opft opath h1 h2 h3 h4 h5 h6 h7 w).mono ?_; rintro e w' ⟨b, rfl, rfl⟩
  cases b
  · go_wp2_with fail
    go_ret
    exact ⟨rfl, Below.refl _ _⟩
  go_wp2_with fail
  all_goals try (go_ret; exact ⟨rfl, Below.refl _ _⟩)
  have b0 := Below.refl w'.heap.size w'
  have g0 : Reg w' none false repo := ⟨.inl ⟨rfl, rfl⟩⟩
  refine (fields_any _).mono ?_; rintro e w1 ⟨s, rfl, E1, b1⟩
  have B1 := b0.trans (b1.mono (by simp))
  have g1 := g0.below b1
  clear b0 b1 g0
  go_wp2_with fail
  refine (newEntry_any none 2 true pft _).mono ?_; rintro e w2 ⟨rfl, o2, rfl⟩
  have b2 := (Below.refl w1.heap.size w1).alloc (Nat.le_refl _) o2
  have B2 := B1.trans (b2.mono B1.size)
  have E2 := E1.below b2
  have g2 := g1.below b2
  clear b2 E1 g1 B1
  generalize w1.alloc o2 = w2x at *
  go_wp2_with fail
  refine (zz_yes F s none 2 true false repo pft path _ (answers_below hF B2) E2 g2 (by simp [refused])).mono ?_; rintro e w3 ⟨v3, rfl, b3⟩
  have B3 := B2.trans (b3.mono B2.size)
  have E3 := E2.below b3
  have g3 := g2.below b3
  clear b3 E2 g2 B2
  go_wp2_with fail
  refine (newEntry_any none 2 false pft _).mono ?_; rintro e w4 ⟨rfl, o4, rfl⟩
  have b4 := (Below.refl w3.heap.size w3).alloc (Nat.le_refl _) o4
  have B4 := B3.trans (b4.mono B3.size)
  have E4 := E3.below b4
  have g4 := g3.below b4
  clear b4 E3 g3 B3
  generalize w3.alloc o4 = w4x at *
  go_wp2_with fail
  refine (zz_no F s none 2 false false repo pft path _ (answers_below hF B4) E4 g4 (by simp [refused])).mono ?_; rintro e w5 ⟨rfl, b5⟩
  have B5 := B4.trans (b5.mono B4.size)
  have E5 := E4.below b5
  have g5 := g4.below b5
  clear b5 E4 g4 B4
  go_wp2_with fail
  refine (newEntry_any none 2 false opft _).mono ?_; rintro e w6 ⟨rfl, o6, rfl⟩
  have b6 := (Below.refl w5.heap.size w5).alloc (Nat.le_refl _) o6
  have B6 := B5.trans (b6.mono B5.size)
  have E6 := E5.below b6
  have g6 := g5.below b6
  clear b6 E5 g5 B5
  generalize w5.alloc o6 = w6x at *
  go_wp2_with fail
  refine (zz_no F s none 2 false false repo opft opath _ (answers_below hF B6) E6 g6 (by simp [refused])).mono ?_; rintro e w7 ⟨rfl, b7⟩
  have B7 := B6.trans (b7.mono B6.size)
  have E7 := E6.below b7
  have g7 := g6.below b7
  clear b7 E6 g6 B6
  go_wp2_with fail
  go_ret
  exact ⟨by first | rfl | simp, B7⟩

set_option maxRecDepth 100000 in
set_option maxHeartbeats 3200000 in
theorem main4_2tn (F : Interp) (host repo sec pft path opft opath : ByteArray) (h1 : host.size ≤ 9223372036854775807) (h2 : repo.size ≤ 9223372036854775807) (h3 : sec.size ≤ 9223372036854775807) (h4 : pft.size ≤ 9223372036854775807) (h5 : path.size ≤ 9223372036854775807) (h6 : opft.size ≤ 9223372036854775807) (h7 : opath.size ≤ 9223372036854775807)
    (w : World) (hF : F.answers w.tape) (he : (repo.toList == []) = false) :
    Calls Tryf.prog 4 #[.int .i64 2, .bool true, .string host, .string repo, .string sec, .string pft, .string path, .string opft, .string opath] w fun e w' => e = .returned (.bool true) ∧ Below w.heap.size w w' := by
  go_enter Tryf.func4, Tryf.ntmps4
  go_wp2_with fail
  refine (bytes4 2 true host repo sec pft path opft opath h1 h2 h3 h4 h5 h6 h7 w).mono ?_; rintro e w' ⟨b, rfl, rfl⟩
  cases b
  · go_wp2_with fail
    go_ret
    exact ⟨rfl, Below.refl _ _⟩
  go_wp2_with fail
  all_goals try (go_ret; exact ⟨rfl, Below.refl _ _⟩)
  have b0 := (Below.refl w'.heap.size w').alloc (Nat.le_refl _) (.cells #[.string host, .string repo, .string sec] 25)
  have g0 : Reg (w'.alloc (.cells #[.string host, .string repo, .string sec] 25)) (some ⟨w'.heap.size, 0, none⟩) true repo := ⟨.inr ⟨rfl, _, rfl, by simp, by go_simp⟩⟩
  refine (fields_any _).mono ?_; rintro e w1 ⟨s, rfl, E1, b1⟩
  have B1 := b0.trans (b1.mono (by simp))
  have g1 := g0.below b1
  clear b0 b1 g0
  go_wp2_with fail
  refine (newEntry_any (some ⟨w'.heap.size, 0, none⟩) 2 true pft _).mono ?_; rintro e w2 ⟨rfl, o2, rfl⟩
  have b2 := (Below.refl w1.heap.size w1).alloc (Nat.le_refl _) o2
  have B2 := B1.trans (b2.mono B1.size)
  have E2 := E1.below b2
  have g2 := g1.below b2
  clear b2 E1 g1 B1
  generalize w1.alloc o2 = w2x at *
  go_wp2_with fail
  refine (zz_yes F s (some ⟨w'.heap.size, 0, none⟩) 2 true true repo pft path _ (answers_below hF B2) E2 g2 (by simp only [refused, he]; rfl)).mono ?_; rintro e w3 ⟨v3, rfl, b3⟩
  have B3 := B2.trans (b3.mono B2.size)
  have E3 := E2.below b3
  have g3 := g2.below b3
  clear b3 E2 g2 B2
  go_wp2_with fail
  refine (newEntry_any (some ⟨w'.heap.size, 0, none⟩) 2 false pft _).mono ?_; rintro e w4 ⟨rfl, o4, rfl⟩
  have b4 := (Below.refl w3.heap.size w3).alloc (Nat.le_refl _) o4
  have B4 := B3.trans (b4.mono B3.size)
  have E4 := E3.below b4
  have g4 := g3.below b4
  clear b4 E3 g3 B3
  generalize w3.alloc o4 = w4x at *
  go_wp2_with fail
  refine (zz_no F s (some ⟨w'.heap.size, 0, none⟩) 2 false true repo pft path _ (answers_below hF B4) E4 g4 (by simp only [refused, he]; rfl)).mono ?_; rintro e w5 ⟨rfl, b5⟩
  have B5 := B4.trans (b5.mono B4.size)
  have E5 := E4.below b5
  have g5 := g4.below b5
  clear b5 E4 g4 B4
  go_wp2_with fail
  refine (newEntry_any (some ⟨w'.heap.size, 0, none⟩) 2 false opft _).mono ?_; rintro e w6 ⟨rfl, o6, rfl⟩
  have b6 := (Below.refl w5.heap.size w5).alloc (Nat.le_refl _) o6
  have B6 := B5.trans (b6.mono B5.size)
  have E6 := E5.below b6
  have g6 := g5.below b6
  clear b6 E5 g5 B5
  generalize w5.alloc o6 = w6x at *
  go_wp2_with fail
  refine (zz_no F s (some ⟨w'.heap.size, 0, none⟩) 2 false true repo opft opath _ (answers_below hF B6) E6 g6 (by simp only [refused, he]; rfl)).mono ?_; rintro e w7 ⟨rfl, b7⟩
  have B7 := B6.trans (b7.mono B6.size)
  have E7 := E6.below b7
  have g7 := g6.below b7
  clear b7 E6 g6 B6
  go_wp2_with fail
  go_ret
  exact ⟨by first | rfl | simp, B7⟩

set_option maxRecDepth 100000 in
set_option maxHeartbeats 3200000 in
theorem main4_2te (F : Interp) (host repo sec pft path opft opath : ByteArray) (h1 : host.size ≤ 9223372036854775807) (h2 : repo.size ≤ 9223372036854775807) (h3 : sec.size ≤ 9223372036854775807) (h4 : pft.size ≤ 9223372036854775807) (h5 : path.size ≤ 9223372036854775807) (h6 : opft.size ≤ 9223372036854775807) (h7 : opath.size ≤ 9223372036854775807)
    (w : World) (hF : F.answers w.tape) (he : (repo.toList == []) = true) :
    Calls Tryf.prog 4 #[.int .i64 2, .bool true, .string host, .string repo, .string sec, .string pft, .string path, .string opft, .string opath] w fun e w' => e = .returned (.bool true) ∧ Below w.heap.size w w' := by
  go_enter Tryf.func4, Tryf.ntmps4
  go_wp2_with fail
  refine (bytes4 2 true host repo sec pft path opft opath h1 h2 h3 h4 h5 h6 h7 w).mono ?_; rintro e w' ⟨b, rfl, rfl⟩
  cases b
  · go_wp2_with fail
    go_ret
    exact ⟨rfl, Below.refl _ _⟩
  go_wp2_with fail
  all_goals try (go_ret; exact ⟨rfl, Below.refl _ _⟩)
  have b0 := (Below.refl w'.heap.size w').alloc (Nat.le_refl _) (.cells #[.string host, .string repo, .string sec] 25)
  have g0 : Reg (w'.alloc (.cells #[.string host, .string repo, .string sec] 25)) (some ⟨w'.heap.size, 0, none⟩) true repo := ⟨.inr ⟨rfl, _, rfl, by simp, by go_simp⟩⟩
  refine (fields_any _).mono ?_; rintro e w1 ⟨s, rfl, E1, b1⟩
  have B1 := b0.trans (b1.mono (by simp))
  have g1 := g0.below b1
  clear b0 b1 g0
  go_wp2_with fail
  refine (newEntry_any (some ⟨w'.heap.size, 0, none⟩) 2 true pft _).mono ?_; rintro e w2 ⟨rfl, o2, rfl⟩
  have b2 := (Below.refl w1.heap.size w1).alloc (Nat.le_refl _) o2
  have B2 := B1.trans (b2.mono B1.size)
  have E2 := E1.below b2
  have g2 := g1.below b2
  clear b2 E1 g1 B1
  generalize w1.alloc o2 = w2x at *
  go_wp2_with fail
  refine (zz_yes F s (some ⟨w'.heap.size, 0, none⟩) 2 true true repo pft path _ (answers_below hF B2) E2 g2 (by simp only [refused, he]; rfl)).mono ?_; rintro e w3 ⟨v3, rfl, b3⟩
  have B3 := B2.trans (b3.mono B2.size)
  have E3 := E2.below b3
  have g3 := g2.below b3
  clear b3 E2 g2 B2
  go_wp2_with fail
  refine (newEntry_any (some ⟨w'.heap.size, 0, none⟩) 2 false pft _).mono ?_; rintro e w4 ⟨rfl, o4, rfl⟩
  have b4 := (Below.refl w3.heap.size w3).alloc (Nat.le_refl _) o4
  have B4 := B3.trans (b4.mono B3.size)
  have E4 := E3.below b4
  have g4 := g3.below b4
  clear b4 E3 g3 B3
  generalize w3.alloc o4 = w4x at *
  go_wp2_with fail
  refine (zz_yes F s (some ⟨w'.heap.size, 0, none⟩) 2 false true repo pft path _ (answers_below hF B4) E4 g4 (by simp only [refused, he]; rfl)).mono ?_; rintro e w5 ⟨v5, rfl, b5⟩
  have B5 := B4.trans (b5.mono B4.size)
  have E5 := E4.below b5
  have g5 := g4.below b5
  clear b5 E4 g4 B4
  go_wp2_with fail
  refine (newEntry_any (some ⟨w'.heap.size, 0, none⟩) 2 false opft _).mono ?_; rintro e w6 ⟨rfl, o6, rfl⟩
  have b6 := (Below.refl w5.heap.size w5).alloc (Nat.le_refl _) o6
  have B6 := B5.trans (b6.mono B5.size)
  have E6 := E5.below b6
  have g6 := g5.below b6
  clear b6 E5 g5 B5
  generalize w5.alloc o6 = w6x at *
  go_wp2_with fail
  refine (zz_yes F s (some ⟨w'.heap.size, 0, none⟩) 2 false true repo opft opath _ (answers_below hF B6) E6 g6 (by simp only [refused, he]; rfl)).mono ?_; rintro e w7 ⟨v7, rfl, b7⟩
  have B7 := B6.trans (b7.mono B6.size)
  have E7 := E6.below b7
  have g7 := g6.below b7
  clear b7 E6 g6 B6
  go_wp2_with fail
  go_ret
  exact ⟨by first | rfl | simp, B7⟩

theorem main4 (F : Interp) (enc : Int) (has : Bool) (host repo sec pft path opft opath : ByteArray) (h1 : host.size ≤ 9223372036854775807) (h2 : repo.size ≤ 9223372036854775807) (h3 : sec.size ≤ 9223372036854775807) (h4 : pft.size ≤ 9223372036854775807) (h5 : path.size ≤ 9223372036854775807) (h6 : opft.size ≤ 9223372036854775807) (h7 : opath.size ≤ 9223372036854775807) (w : World) (hF : F.answers w.tape) :
    Calls Tryf.prog 4 #[.int .i64 enc, .bool has, .string host, .string repo, .string sec, .string pft, .string path, .string opft, .string opath] w fun e w' => e = .returned (.bool true) ∧ Below w.heap.size w w' := by
  by_cases e0 : enc = 0
  · subst e0
    cases has
    · exact main4_zf F host repo sec pft path opft opath h1 h2 h3 h4 h5 h6 h7 w hF
    · exact main4_zt F host repo sec pft path opft opath h1 h2 h3 h4 h5 h6 h7 w hF
  · by_cases e2 : enc = 2
    · subst e2
      cases has
      · exact main4_2f F host repo sec pft path opft opath h1 h2 h3 h4 h5 h6 h7 w hF
      · cases he : (repo.toList == [])
        · exact main4_2tn F host repo sec pft path opft opath h1 h2 h3 h4 h5 h6 h7 w hF he
        · exact main4_2te F host repo sec pft path opft opath h1 h2 h3 h4 h5 h6 h7 w hF he
    · have f0 : (enc == 0) = false := by rw [beq_eq_false_iff_ne]; exact e0
      have f1 : (enc != 0) = true := by rw [bne_iff_ne]; exact e0
      have f2 : (enc == 2) = false := by rw [beq_eq_false_iff_ne]; exact e2
      cases has
      · exact main4_nf F enc host repo sec pft path opft opath h1 h2 h3 h4 h5 h6 h7 w hF f0 f1 f2
      · exact main4_nt F enc host repo sec pft path opft opath h1 h2 h3 h4 h5 h6 h7 w hF f0 f1 f2
end Go.Proofs.Qxb6613941aFmt
