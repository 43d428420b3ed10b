/-
  Seat b6613868a. THE WALKS of the readers: toldEach (15), onlyAnswer (14), sameActions (9), the accessors (18, 20 .. 26), listsKept (19).
-/
import Derived.Test.Qxb6613868aTell
namespace Go.Proofs.Qxb6613868a
open Go.ChangeShapes Go.WideShapes Go.ChangeAt Go.RowKit

set_option maxHeartbeats 400000 in
theorem toldEach_any (kind : Int) (a a' : Option Addr) (len cap cap' : Nat) (zs : List Int) (lo hi lo' hi' : Nat) (w : World) (h : Acts w lo hi a len kind zs) (h' : Arr w lo' hi' a' len zs) (hlen : len ≤ 65536) :
    Calls Try.prog 15 #[.slice a len cap, .int .u8 kind, .slice a' len cap'] w fun e w' => e = .returned (.bool true) ∧ ∃ n, w' = w.drewN n := by
  go_enter Try.func15, Try.ntmps15
  go_wp2
  go_loopw [7] (fun i wr => ∃ k : Nat, k ≤ len ∧ i = .int .i64 k ∧ ∃ n, wr = w.drewN n)
      (fun i _ => len - (intOf i).toNat)
  case atStart => exact ⟨0, Nat.zero_le _, rfl, 0, rfl⟩
  case round =>
    obtain ⟨k, hk, rfl, n, rfl⟩ := hrel
    by_cases hlt : k < len
    · obtain ⟨b, rfl, h1, h2, h3⟩ := h.at_.resolve_left (by omega)
      obtain ⟨b', off', rfl, h1', h2', h3'⟩ := h'.at_.resolve_left (by omega)
      obtain ⟨c1, c2, c3⟩ := h3 k hlt
      have c4 := h3' k hlt
      clear h3 h3'
      generalize zs[k]?.getD 0 = z at c2 c4
      have i1 : (k : Int) < (len : Int) := by omega
      go_wp2
      go_quiet (fail)
      go_wp2
      go_roundw
      case rel => exact ⟨k + 1, by omega, by go_num, _, rfl⟩
      case measure => simp [intOf]; omega
    · go_wp2
      go_ret
      exact ⟨rfl, n, rfl⟩

set_option maxHeartbeats 400000 in
theorem sameActions_any (kind : Int) (a a' : Option Addr) (len cap cap' : Nat) (zs : List Int) (lo hi lo' hi' : Nat) (w : World) (h : Acts w lo hi a len kind zs) (h' : Acts w lo' hi' a' len kind zs) (hlen : len ≤ 65536) :
    Calls Try.prog 9 #[.slice a len cap, .slice a' len cap'] w fun e w' => e = .returned (.bool true) ∧ ∃ n, w' = w.drewN n := by
  go_enter Try.func9, Try.ntmps9
  go_wp2
  go_loopw [5] (fun i wr => ∃ k : Nat, k ≤ len ∧ i = .int .i64 k ∧ ∃ n, wr = w.drewN n)
      (fun i _ => len - (intOf i).toNat)
  case atStart => exact ⟨0, Nat.zero_le _, rfl, 0, rfl⟩
  case round =>
    obtain ⟨k, hk, rfl, n, rfl⟩ := hrel
    by_cases hlt : k < len
    · obtain ⟨b, rfl, h1, h2, h3⟩ := h.at_.resolve_left (by omega)
      obtain ⟨b', rfl, h1', h2', h3'⟩ := h'.at_.resolve_left (by omega)
      obtain ⟨c1, c2, c3⟩ := h3 k hlt
      obtain ⟨c4, c5, c6⟩ := h3' k hlt
      clear h3 h3'
      generalize zs[k]?.getD 0 = z at c2 c5
      have i1 : (k : Int) < (len : Int) := by omega
      go_wp2
      go_quiet (fail)
      go_wp2
      go_roundw
      case rel => exact ⟨k + 1, by omega, by go_num, _, rfl⟩
      case measure => simp [intOf]; omega
    · go_wp2
      go_ret
      exact ⟨rfl, n, rfl⟩

/-- 'r' is one action, the superior told o. -/
theorem onlyAnswer_any (o : Int) (b cap : Nat) (w : World) (c0 : w.cell? ⟨b, 0, none⟩ = some (.int .u8 11)) (c1 : w.cell? ⟨b, 1, none⟩ = some (.int .u32 0)) (c2 : w.cell? ⟨b, 2, none⟩ = some (.int .u8 o)) :
    Calls Try.prog 14 #[.slice (some ⟨b, 0, none⟩) 1 cap, .int .u8 o] w fun e w' => e = .returned (.bool true) ∧ w' = w := by
  go_enter Try.func14, Try.ntmps14
  go_wp2
  go_ret
  exact ⟨rfl, rfl⟩

theorem state_any (b : Nat) (st : Int) (w : World) (h : w.cell? ⟨b, 0, none⟩ = some (.int .u8 st)) : Calls Try.prog 18 #[.pointer (some ⟨b, 0, none⟩)] w fun e w' => e = .returned (.int .u8 st) ∧ w' = w := by
  go_enter Try.func18, Try.ntmps18
  go_wp2
  go_ret
  exact ⟨rfl, rfl⟩
theorem phaseOne_any (b : Nat) (a : Option Addr) (l c : Nat) (w : World) (h : w.cell? ⟨b, 15, none⟩ = some (.slice a l c)) : Calls Try.prog 20 #[.pointer (some ⟨b, 0, none⟩)] w fun e w' => e = .returned (.slice a l c) ∧ w' = w := by
  go_enter Try.func20, Try.ntmps20
  go_wp2
  go_ret
  exact ⟨rfl, rfl⟩
theorem phaseTwo_any (b : Nat) (a : Option Addr) (l c : Nat) (w : World) (h : w.cell? ⟨b, 16, none⟩ = some (.slice a l c)) : Calls Try.prog 21 #[.pointer (some ⟨b, 0, none⟩)] w fun e w' => e = .returned (.slice a l c) ∧ w' = w := by
  go_enter Try.func21, Try.ntmps21
  go_wp2
  go_ret
  exact ⟨rfl, rfl⟩
theorem logging_any (b : Nat) (st : Int) (w : World) (h : w.cell? ⟨b, 6, none⟩ = some (.int .u8 st)) : Calls Try.prog 22 #[.pointer (some ⟨b, 0, none⟩)] w fun e w' => e = .returned (.int .u8 st) ∧ w' = w := by
  go_enter Try.func22, Try.ntmps22
  go_wp2
  go_ret
  exact ⟨rfl, rfl⟩
theorem outcome_any (b : Nat) (st : Int) (w : World) (h : w.cell? ⟨b, 2, none⟩ = some (.int .u8 st)) : Calls Try.prog 23 #[.pointer (some ⟨b, 0, none⟩)] w fun e w' => e = .returned (.int .u8 st) ∧ w' = w := by
  go_enter Try.func23, Try.ntmps23
  go_wp2
  go_ret
  exact ⟨rfl, rfl⟩
theorem prepared_any (b : Nat) (st : Bool) (w : World) (h : w.cell? ⟨b, 7, none⟩ = some (.bool st)) : Calls Try.prog 24 #[.pointer (some ⟨b, 0, none⟩)] w fun e w' => e = .returned (.bool st) ∧ w' = w := by
  go_enter Try.func24, Try.ntmps24
  go_wp2
  go_ret
  exact ⟨rfl, rfl⟩
theorem told_any (b : Nat) (a : Option Addr) (l c : Nat) (w : World) (h : w.cell? ⟨b, 18, none⟩ = some (.slice a l c)) : Calls Try.prog 25 #[.pointer (some ⟨b, 0, none⟩)] w fun e w' => e = .returned (.slice a l c) ∧ w' = w := by
  go_enter Try.func25, Try.ntmps25
  go_wp2
  go_ret
  exact ⟨rfl, rfl⟩
theorem voters_any (b : Nat) (a : Option Addr) (l c : Nat) (w : World) (h : w.cell? ⟨b, 14, none⟩ = some (.slice a l c)) : Calls Try.prog 26 #[.pointer (some ⟨b, 0, none⟩)] w fun e w' => e = .returned (.slice a l c) ∧ w' = w := by
  go_enter Try.func26, Try.ntmps26
  go_wp2
  go_ret
  exact ⟨rfl, rfl⟩
end Go.Proofs.Qxb6613868a
