/-
  Seat b6614066a. THE WALKS of encoding/binary.AppendUvarint (15), appendString (17), appendStrings (16), appendHandoff (13), ZZappendHandoff (7).
-/
import Derived.Test.Qxb6614066aBase
namespace Go.Proofs.Qxb6614066a
open Go.ChangeShapes Go.WideShapes Go.ChangeAt Go.RowKit

theorem pow_step (j : Nat) (hj : j ≤ 8) : 2 ^ (64 - 7 * j) = 2 ^ (64 - 7 * (j + 1)) * 128 := by
  have : 64 - 7 * j = (64 - 7 * (j + 1)) + 7 := by omega
  rw [this, Nat.pow_add]
theorem low_bound (j q : Nat) (hj : j ≤ 9) (hq : q < 2 ^ (64 - 7 * j)) (h : 128 ≤ q) : j ≤ 8 := by
  by_cases e : j = 9
  · subst e; simp at hq; omega
  · omega
theorem or128 (q : Nat) : bits .or .u8 ((q : Int) % 256) 128 = (q : Int) % 128 + 128 := by
  have h := u8_or_nat (q % 256) 128 (by omega) (by decide)
  have key : ∀ a : Fin 256, a.val ||| 128 = a.val % 128 + 128 := by decide +kernel
  have hk := key ⟨q % 256, by omega⟩
  simp only at hk
  rw [hk] at h
  have e1 : (((q % 256 : Nat)) : Int) = (q : Int) % 256 := by omega
  have e2 : ((q % 256 % 128 + 128 : Nat) : Int) = (q : Int) % 128 + 128 := by omega
  rw [e1, e2] at h
  exact h
theorem uv_step {pre : List Int} {j q x : Nat} (hj : j ≤ 8) (h : 128 ≤ q) (he : pre ++ uvF (9 - j) q = uv x) : (pre ++ [(q : Int) % 128 + 128]) ++ uvF (9 - (j + 1)) (q / 128) = uv x := by
  rw [← he, show 9 - j = (9 - (j + 1)) + 1 from by omega, uvF_big _ _ h]
  simp
theorem uv_end {pre : List Int} {j q x : Nat} (h : q < 128) (he : pre ++ uvF (9 - j) q = uv x) : pre ++ [(q : Int)] = uv x := by
  rw [← he, uvF_small _ _ h]
theorem one_cell (w : World) (y : Int) : ∀ j u, (([y] : List Int).map (Value.int .u8))[j]? = some u → (w.alloc (.cells #[.int .u8 y] 5)).cell? ((⟨w.heap.size, 0, none⟩ : Addr).add j) = some u := by
  intro j u hj
  rw [add_plain, World.cell?_alloc_at _ _ _ _ rfl]
  match j, hj with
  | 0, hj => simpa using hj

set_option maxRecDepth 100000 in
set_option maxHeartbeats 800000 in
theorem uvarint_any (v : Value) (xs : List Int) (x : Nat) (w : World) (hx : x < 18446744073709551616) (hb : Buf w v xs) (hn : xs.length ≤ 549755813888) :
    Calls Try.prog 15 #[v, .int .u64 x] w fun e w' => ∃ v', e = .returned v' ∧ Buf w' v' (xs ++ uv x) ∧ Step w w' v v' := by
  have hx2 : (x : Int) ≤ 18446744073709551615 := by omega
  have HX := hide hx
  clear hx
  go_enter Try.func15, Try.ntmps15
  go_wp2
  go_loopw [0, 1] (fun v' y wr => ∃ (q : Nat) (pre : List Int), y = .int .u64 q ∧ pre.length ≤ 9 ∧ Hid (q < 2 ^ (64 - 7 * pre.length)) ∧ (q : Int) ≤ 18446744073709551615 ∧ Hid (pre ++ uvF (9 - pre.length) q = uv x) ∧ Buf wr v' (xs ++ pre) ∧ Step w wr v v') (fun _ y _ => (intOf y).toNat)
  case atStart => exact ⟨x, [], rfl, by simp, HX, hx2, rfl, by simpa using hb, Step.refl _ _⟩
  case round =>
    obtain ⟨q, pre, rfl, hj, hq, hqx, he, hbr, hst⟩ := hrel
    by_cases h128 : 128 ≤ q
    · have hj8 := low_bound _ q hj hq.out h128
      have hor := or128 q
      go_wp2_with (at_builtin; refine wp_bytes rfl (.tmp 7) (.tmp 11) rfl _ (xs ++ pre) [(q : Int) % 128 + 128] rfl (hbr.alloc _) ⟨wr.heap.size, 0, none⟩ 1 1 rfl rfl (one_cell _ _) (by simp; omega) ?_)
      intro v1 w1 hb1 hs1
      have hst1 := hst.trans ((Step.alloc _ _ _).trans hs1)
      have he1 := hide (uv_step hj8 h128 he.out)
      clear hs1 hor hbr he
      go_wp2
      go_roundw
      case rel =>
        refine ⟨q / 128, pre ++ [(q : Int) % 128 + 128], by go_num, by simp; omega, ?_, by omega, ?_, by simpa using hb1, hst1⟩
        · have h1 := hq.out
          rw [pow_step _ hj8] at h1
          rw [List.length_append]
          exact Nat.div_lt_of_lt_mul (by rw [Nat.mul_comm]; exact h1)
        · rw [List.length_append]; exact he1
      case measure => simp [intOf]; omega
    · have he1 := hide (uv_end (by omega) he.out)
      go_wp2_with (at_builtin; refine wp_bytes rfl (.tmp 15) (.tmp 18) rfl _ (xs ++ pre) [(q : Int)] rfl (hbr.alloc _) ⟨wr.heap.size, 0, none⟩ 1 1 rfl rfl (one_cell _ _) (by simp; omega) ?_)
      intro v1 w1 hb1 hs1
      have hst1 := hst.trans ((Step.alloc _ _ _).trans hs1)
      rw [he1.out] at hb1
      clear hs1 he hbr he1
      go_wp2
      go_ret
      exact ⟨_, rfl, hb1, hst1⟩
end Go.Proofs.Qxb6614066a
