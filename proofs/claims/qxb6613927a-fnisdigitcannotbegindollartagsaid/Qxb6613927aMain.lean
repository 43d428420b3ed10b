/-
  Seat b6613927a. THE LAW's WALK (4).
-/
import Derived.Test.Qxb6613927aTag2
import Derived.Test.Qxb6613927aDec
namespace Go.Proofs.Qxb6613927a
open Go.ChangeShapes Go.WideShapes Go.ChangeAt Go.RowKit

theorem conv3 (c : UInt8) (w : World) : (convert 33 9 (.slice (some ⟨w.heap.size, 0, none⟩) 3 3)).run Try.prog (w.alloc (.cells #[.int .u8 36, .int .u8 c.toNat, .int .u8 36] 5)) =
    .ok (.string ⟨#[36, c, 36]⟩) (w.alloc (.cells #[.int .u8 36, .int .u8 c.toNat, .int .u8 36] 5)) :=
  run_convert_bytes_back _ 33 9 5 ⟨w.heap.size, 0, none⟩ 3 [36, c, 36] Try.underlying33 Try.underlying5 Try.underlying9 (by
    intro j hj
    rw [add_plain, World.cell?_alloc_at _ _ _ _ rfl]
    match j, hj with
    | 0, _ => rfl
    | 1, _ => rfl
    | 2, _ => rfl)
theorem conv4 (c : UInt8) (w : World) : (convert 33 9 (.slice (some ⟨w.heap.size, 0, none⟩) 4 4)).run Try.prog (w.alloc (.cells #[.int .u8 36, .int .u8 120, .int .u8 c.toNat, .int .u8 36] 5)) =
    .ok (.string ⟨#[36, 120, c, 36]⟩) (w.alloc (.cells #[.int .u8 36, .int .u8 120, .int .u8 c.toNat, .int .u8 36] 5)) :=
  run_convert_bytes_back _ 33 9 5 ⟨w.heap.size, 0, none⟩ 4 [36, 120, c, 36] Try.underlying33 Try.underlying5 Try.underlying9 (by
    intro j hj
    rw [add_plain, World.cell?_alloc_at _ _ _ _ rfl]
    match j, hj with
    | 0, _ => rfl
    | 1, _ => rfl
    | 2, _ => rfl
    | 3, _ => rfl)

set_option maxHeartbeats 1600000 in
theorem main_walk (c : UInt8) (n : Int) (h0 : 0 ≤ n) (hn : n ≤ 18446744073709551615) (w : World) :
    Calls Try.prog 4 #[.int .u8 c.toNat, .int .u64 n] w fun e w' => e = .returned (.bool true) ∧ Grown w w' := by
  have hc3 := conv3 c
  have hc4 : ∀ (w : World) (o : Obj), (convert 33 9 (.slice (some ⟨w.heap.size + 1, 0, none⟩) 4 4)).run Try.prog ((w.alloc o).alloc (.cells #[.int .u8 36, .int .u8 120, .int .u8 c.toNat, .int .u8 36] 5)) =
    .ok (.string ⟨#[36, 120, c, 36]⟩) ((w.alloc o).alloc (.cells #[.int .u8 36, .int .u8 120, .int .u8 c.toNat, .int .u8 36] 5)) := by
    intro w o
    have := conv4 c (w.alloc o)
    rw [show (w.alloc o).heap.size = w.heap.size + 1 from by simp] at this
    exact this
  go_enter Try.func4, Try.ntmps4
  go_wp2_with fail
  refine (decimal_any n h0 hn _).mono ?_; rintro e w1 ⟨⟨t, rfl, ht, hd⟩, hg⟩
  have HD := hide hd
  clear hd
  go_wp2_with fail
  go_loop [6] (fun i => ∃ k : Nat, i = .int .i64 k ∧ k ≤ t.size) (fun i => t.size - (intOf i).toNat)
  case atStart => exact ⟨0, rfl, Nat.zero_le _⟩
  case round =>
    obtain ⟨k, rfl, hk⟩ := hrel
    by_cases hlt : k < t.size
    · have hdk := HD.out k hlt
      obtain ⟨d1, d2⟩ := hdk
      go_wp2_with fail
      refine (zzDigit_yes _ d1 d2 _).mono ?_; rintro e w' ⟨rfl, rfl⟩
      go_wp2_with fail
      go_round
      case rel => exact ⟨k + 1, by go_num, by omega⟩
      case measure => simp [intOf]; omega
    · by_cases e36 : (c.toNat : Int) = 36
      · have nd : ¬ (48 ≤ (c.toNat : Int) ∧ (c.toNat : Int) ≤ 57) := by omega
        have wd : W c.toNat := by unfold W; omega
        have Z3 := hide (fun w => zz3 c false (by simp [e36]) w)
        have Z4 := hide (fun w => zz4 c false (by simp [wd]) w)
        have ND := hide nd
        have E36 : ((c.toNat : Int) != 36) = false := by rw [bne_eq_false_iff_eq]; exact e36
        clear nd wd e36
        go_wp2_with fail
        refine (Z3.out _).mono ?_; rintro e w' ⟨⟨t3, rfl, e3⟩, rfl⟩
        go_wp2_with fail
        refine (Z4.out _).mono ?_; rintro e w' ⟨⟨t4, rfl, e4⟩, rfl⟩
        go_wp2_with fail
        refine (zzDigit_no _ ND.out _).mono ?_; rintro e w' ⟨rfl, rfl⟩
        go_wp2_with fail
        go_ret
        exact ⟨rfl, (hg.alloc _ _).alloc _ _⟩
      · have E36 : ((c.toNat : Int) != 36) = true := by rw [bne_iff_ne]; exact e36
        by_cases hd : 48 ≤ (c.toNat : Int) ∧ (c.toNat : Int) ≤ 57
        · have wd : W c.toNat := by unfold W; omega
          have Z3 := hide (fun w => zz3 c true (by simp [e36, hd]) w)
          have Z4 := hide (fun w => zz4 c false (by simp [wd]) w)
          obtain ⟨x1, x2⟩ := hd
          clear wd
          go_wp2_with fail
          refine (Z3.out _).mono ?_; rintro e w' ⟨⟨t3, rfl, e3⟩, rfl⟩
          go_wp2_with fail
          refine (Z4.out _).mono ?_; rintro e w' ⟨⟨t4, rfl, e4⟩, rfl⟩
          go_wp2_with fail
          refine (zzDigit_yes _ x1 x2 _).mono ?_; rintro e w' ⟨rfl, rfl⟩
          go_wp2_with fail
          go_ret
          exact ⟨rfl, (hg.alloc _ _).alloc _ _⟩
        · have ND := hide hd
          by_cases wd : W c.toNat
          · have Z3 := hide (fun w => zz3 c false (by simp [wd]; omega) w)
            have Z4 := hide (fun w => zz4 c false (by simp [wd]) w)
            clear wd hd
            go_wp2_with fail
            refine (Z3.out _).mono ?_; rintro e w' ⟨⟨t3, rfl, e3⟩, rfl⟩
            go_wp2_with fail
            refine (Z4.out _).mono ?_; rintro e w' ⟨⟨t4, rfl, e4⟩, rfl⟩
            go_wp2_with fail
            refine (zzDigit_no _ ND.out _).mono ?_; rintro e w' ⟨rfl, rfl⟩
            go_wp2_with fail
            go_ret
            exact ⟨rfl, (hg.alloc _ _).alloc _ _⟩
          · have Z3 := hide (fun w => zz3 c true (by simp [wd, e36]) w)
            have Z4 := hide (fun w => zz4 c true (by simp [wd]) w)
            clear wd hd
            go_wp2_with fail
            refine (Z3.out _).mono ?_; rintro e w' ⟨⟨t3, rfl, e3⟩, rfl⟩
            go_wp2_with fail
            refine (Z4.out _).mono ?_; rintro e w' ⟨⟨t4, rfl, e4⟩, rfl⟩
            go_wp2_with fail
            refine (zzDigit_no _ ND.out _).mono ?_; rintro e w' ⟨rfl, rfl⟩
            go_wp2_with fail
            go_ret
            exact ⟨rfl, (hg.alloc _ _).alloc _ _⟩
end Go.Proofs.Qxb6613927a
