/-
  Seat b6613927a. THE WALKS of isDigit (14), ZZisDigit (11), isWordByte (17), HasPrefix (16, 18), dollarTag (15) at two strings, ZZdollarTag (12).
-/
import Derived.Test.Qxb6613927aRows
import Derived.WalkKit
import Derived.ProofKit
import Derived.Below
import Derived.WalkSmall
import Derived.Deep.QuietTactic
import Derived.BigQuiet
import Derived.WalkSpells
import Derived.Laws.IdiomStrings
namespace Go.Proofs.Qxb6613927a
open Go.ChangeShapes Go.WideShapes Go.ChangeAt Go.RowKit

theorem hide {p : Prop} (h : p) : Hid p := h

theorem isDigit_yes (c : Int) (h1 : 48 ≤ c) (h2 : c ≤ 57) (w : World) : Calls Try.prog 14 #[.int .u8 c] w fun e w' => e = .returned (.bool true) ∧ w' = w := by
  go_enter Try.func14, Try.ntmps14
  go_wp2
  go_ret
  exact ⟨by simp, rfl⟩
theorem isDigit_no (c : Int) (h : ¬ (48 ≤ c ∧ c ≤ 57)) (w : World) : Calls Try.prog 14 #[.int .u8 c] w fun e w' => e = .returned (.bool false) ∧ w' = w := by
  by_cases h1 : 48 ≤ c
  · have h2 : ¬ c ≤ 57 := by omega
    clear h
    go_enter Try.func14, Try.ntmps14
    go_wp2
    go_ret
    exact ⟨by simp, rfl⟩
  · clear h
    go_enter Try.func14, Try.ntmps14
    go_wp2
    go_ret
    exact ⟨rfl, rfl⟩
theorem zzDigit_yes (c : Int) (h1 : 48 ≤ c) (h2 : c ≤ 57) (w : World) : Calls Try.prog 11 #[.int .u8 c] w fun e w' => e = .returned (.bool true) ∧ w' = w := by
  go_enter Try.func11, Try.ntmps11
  go_wp2_with fail
  refine (isDigit_yes c h1 h2 _).mono ?_; rintro e w' ⟨rfl, rfl⟩
  go_wp2
  go_ret
  exact ⟨rfl, rfl⟩
theorem zzDigit_no (c : Int) (h : ¬ (48 ≤ c ∧ c ≤ 57)) (w : World) : Calls Try.prog 11 #[.int .u8 c] w fun e w' => e = .returned (.bool false) ∧ w' = w := by
  have H := hide h
  clear h
  go_enter Try.func11, Try.ntmps11
  go_wp2_with fail
  refine (isDigit_no c H.out _).mono ?_; rintro e w' ⟨rfl, rfl⟩
  go_wp2
  go_ret
  exact ⟨rfl, rfl⟩

/-- May c be part of a name? -/
def W (c : Int) : Prop := (97 ≤ c ∧ c ≤ 122) ∨ (65 ≤ c ∧ c ≤ 90) ∨ (48 ≤ c ∧ c ≤ 57) ∨ c = 95 ∨ c = 36 ∨ 128 ≤ c

theorem not_W (c : Int) (h : ¬ W c) : c < 36 ∨ (37 ≤ c ∧ c ≤ 47) ∨ (58 ≤ c ∧ c ≤ 64) ∨ (91 ≤ c ∧ c ≤ 94) ∨ c = 96 ∨ (123 ≤ c ∧ c ≤ 127) := by unfold W at h; omega

set_option maxHeartbeats 1600000 in
theorem isWord_yes (c : Int) (h : W c) (w : World) : Calls Try.prog 17 #[.int .u8 c] w fun e w' => e = .returned (.bool true) ∧ w' = w := by
  unfold W at h
  rcases h with h | h | h | h | h | h
  all_goals
    first
      | (obtain ⟨x1, x2⟩ := h)
      | (subst h)
      | skip
  all_goals
    go_enter Try.func17, Try.ntmps17
    go_wp2_with (first | (go_at_call 14; refine (isDigit_yes _ (by omega) (by omega) _).mono ?_; rintro e w' ⟨rfl, rfl⟩) | (go_at_call 14; refine (isDigit_no _ (by omega) _).mono ?_; rintro e w' ⟨rfl, rfl⟩))
  all_goals
    go_ret
    refine ⟨?_, rfl⟩
    first | rfl | (simp; done) | (simp; omega)

set_option maxHeartbeats 1600000 in
theorem isWord_no (c : Int) (h : ¬ W c) (w : World) : Calls Try.prog 17 #[.int .u8 c] w fun e w' => e = .returned (.bool false) ∧ w' = w := by
  have h' := not_W c h
  clear h
  rcases h' with h | h | h | h | h | h
  all_goals
    first
      | (obtain ⟨x1, x2⟩ := h)
      | (subst h)
      | skip
  all_goals
    go_enter Try.func17, Try.ntmps17
    go_wp2_with (first | (go_at_call 14; refine (isDigit_yes _ (by omega) (by omega) _).mono ?_; rintro e w' ⟨rfl, rfl⟩) | (go_at_call 14; refine (isDigit_no _ (by omega) _).mono ?_; rintro e w' ⟨rfl, rfl⟩))
  all_goals
    go_ret
    refine ⟨?_, rfl⟩
    first | rfl | (simp; done) | (simp; omega)

theorem prefix_lite (s : ByteArray) (w : World) (h1 : 1 ≤ s.size) (hs : s.size ≤ 4) (h0 : ((s.extract 0 1).toList == [36]) = true) :
    Calls Try.prog 18 #[.string s, .string ⟨#[36]⟩] w fun e w' => e = .returned (.bool true) ∧ w' = w := by
  go_enter Try.func18, Try.ntmps18
  go_wp2
  go_ret
  exact ⟨by simp, rfl⟩
theorem prefix_any (s : ByteArray) (w : World) (h1 : 1 ≤ s.size) (hs : s.size ≤ 4) (h0 : ((s.extract 0 1).toList == [36]) = true) :
    Calls Try.prog 16 #[.string s, .string ⟨#[36]⟩] w fun e w' => e = .returned (.bool true) ∧ w' = w := by
  have H := hide h0
  clear h0
  go_enter Try.func16, Try.ntmps16
  go_wp2_with fail
  refine (prefix_lite s _ h1 hs H.out).mono ?_; rintro e w' ⟨rfl, rfl⟩
  go_wp2
  go_ret
  exact ⟨rfl, rfl⟩

theorem s3_prefix (c : UInt8) : (((⟨#[36, c, 36]⟩ : ByteArray).extract 0 1).toList == [36]) = true := by
  have : (⟨#[36, c, 36]⟩ : ByteArray).extract 0 1 = ⟨#[36]⟩ := by rfl
  rw [this, ByteArray.toList_eq]; rfl
theorem s4_prefix (c : UInt8) : (((⟨#[36, 120, c, 36]⟩ : ByteArray).extract 0 1).toList == [36]) = true := by
  have : (⟨#[36, 120, c, 36]⟩ : ByteArray).extract 0 1 = ⟨#[36]⟩ := by rfl
  rw [this, ByteArray.toList_eq]; rfl
end Go.Proofs.Qxb6613927a
