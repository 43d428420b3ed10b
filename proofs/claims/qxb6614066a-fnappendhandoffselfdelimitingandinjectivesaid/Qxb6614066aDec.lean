/-
  Seat b6614066a. THE WALKS of zzUvarint (14).
-/
import Derived.Test.Qxb6614066aHand
namespace Go.Proofs.Qxb6614066a
open Go.ChangeShapes Go.WideShapes Go.ChangeAt Go.RowKit

/-- A slice of bytes, readable. -/
structure Rd (w : World) (a : Option Addr) (n : Nat) (xs : List Int) : Prop where
  length : xs.length = n
  at_ : n = 0 ∨ ∃ b off, a = some ⟨b, off, none⟩ ∧ b < w.heap.size ∧ ∀ i, i < n → w.cell? ⟨b, off + i, none⟩ = some (.int .u8 (xs[i]?.getD 0))

/-- What holds after j rounds of the decoder: acc has been read; q is to come. -/
structure St (xs rest : List Int) (x i0 j q acc : Nat) : Prop where
  lo : acc < 2 ^ (7 * j)
  sum : x = acc + q * 2 ^ (7 * j)
  hi : q < 2 ^ (64 - 7 * j)
  pos : 0 < j → 0 < q
  drop : xs.drop (i0 + j) = uvF (9 - j) q ++ rest
  len : j + (uvF (9 - j) q).length = (uv x).length

theorem St.start {xs rest : List Int} {x i0 : Nat} (hx : x < 18446744073709551616) (hd : xs.drop i0 = uv x ++ rest) : St xs rest x i0 0 x 0 :=
  ⟨by decide, by simp, by simpa using hx, fun h => absurd h (by decide), by simpa [uv] using hd, by simp [uv]⟩

theorem St.next {xs rest : List Int} {x i0 j q acc : Nat} (h : St xs rest x i0 j q acc) (hj : j ≤ 8) (hq : 128 ≤ q) : St xs rest x i0 (j + 1) (q / 128) (acc + q % 128 * 2 ^ (7 * j)) := by
  have hp : 2 ^ (7 * (j + 1)) = 2 ^ (7 * j) * 128 := by rw [Nat.mul_add, Nat.pow_add]
  have h9 : 9 - j = (9 - (j + 1)) + 1 := by omega
  have hpos : 0 < 2 ^ (7 * j) := Nat.pow_pos (by decide)
  have hm : q % 128 < 128 := Nat.mod_lt _ (by decide)
  refine ⟨?_, ?_, ?_, fun _ => by omega, ?_, ?_⟩
  · rw [hp]
    have := h.lo
    have h2 : q % 128 * 2 ^ (7 * j) + 2 ^ (7 * j) ≤ 128 * 2 ^ (7 * j) := by
      rw [← Nat.succ_mul]
      exact Nat.mul_le_mul_right _ (by omega)
    rw [Nat.mul_comm (2 ^ (7 * j)) 128]
    omega
  · rw [hp, h.sum]
    have e : q = q / 128 * 128 + q % 128 := by omega
    have e2 : q * 2 ^ (7 * j) = (q / 128 * 128 + q % 128) * 2 ^ (7 * j) := by rw [← e]
    rw [e2, Nat.add_mul, Nat.mul_comm (2 ^ (7 * j)) 128, ← Nat.mul_assoc]
    omega
  · have := h.hi
    rw [pow_step _ hj] at this
    exact Nat.div_lt_of_lt_mul (by rw [Nat.mul_comm]; exact this)
  · have := h.drop
    rw [h9, uvF_big _ _ hq] at this
    rw [show i0 + (j + 1) = (i0 + j) + 1 from by omega, ← List.drop_drop, this]
    rfl
  · have := h.len
    rw [h9, uvF_big _ _ hq] at this
    rw [List.length_cons] at this
    omega

theorem St.le {xs rest : List Int} {x i0 j q acc : Nat} (h : St xs rest x i0 j q acc) : acc + q * 2 ^ (7 * j) = x := h.sum.symm

/-- The byte that is read next. -/
theorem St.byte {xs rest : List Int} {x i0 j q acc : Nat} (h : St xs rest x i0 j q acc) (hj : j ≤ 9) (hq : j ≤ 8 ∨ q < 128) :
    i0 + j < xs.length ∧ xs[i0 + j]?.getD 0 = if q < 128 then (q : Int) else ((q % 128 + 128 : Nat) : Int) := by
  have hd := h.drop
  have hl : i0 + j < xs.length := by
    have := congrArg List.length hd
    have h2 := (uvF_len (9 - j) q).1
    simp at this
    omega
  refine ⟨hl, ?_⟩
  have h0 : xs[i0 + j]? = (xs.drop (i0 + j))[0]? := by simp
  rw [h0, hd]
  by_cases h1 : q < 128
  · rw [uvF_small _ _ h1, if_pos h1]; rfl
  · rw [if_neg h1, show 9 - j = (9 - (j + 1)) + 1 from by omega, uvF_big _ _ (by omega)]; rfl

/-- The two halves joined. -/
theorem or_join (acc m j : Nat) (h1 : acc < 2 ^ (7 * j)) (h2 : acc + m * 2 ^ (7 * j) < 18446744073709551616) :
    bits .or .u64 (acc : Int) (IntKind.u64.wrap ((m : Int) * 2 ^ (7 * j))) = ((acc + m * 2 ^ (7 * j) : Nat) : Int) := by
  have e : ((m : Int) * 2 ^ (7 * j)) = ((m * 2 ^ (7 * j) : Nat) : Int) := by simp
  rw [e, wrap_u64, u64_small _ (by omega), u64_or_nat _ _ (by omega) (by omega)]
  congr 1
  have := Nat.shiftLeft_add_eq_or_of_lt h1 m
  rw [Nat.shiftLeft_eq] at this
  rw [Nat.or_comm, ← this]
  omega

theorem mask_small (q : Nat) (h : q < 128) : bits .and .u8 (q : Int) 127 = (q : Int) := by
  have := bits_mask .u8 8 (by decide) wraps_u8 7 (by decide) (q : Int) (by omega) (by omega)
  simp at this
  rw [this]
  omega
theorem mask_big (q : Nat) : bits .and .u8 ((q : Int) % 128 + 128) 127 = (q : Int) % 128 := by
  have := bits_mask .u8 8 (by decide) wraps_u8 7 (by decide) ((q : Int) % 128 + 128) (by omega) (by omega)
  simp at this
  rw [this]

theorem or_nine {acc x : Int} (j q : Nat) (h : bits .or .u64 acc (IntKind.u64.wrap ((q : Int) * 2 ^ (7 * j))) = x) (hj : j = 9) (hq : q ≤ 1) : bits .or .u64 acc ((q : Int) * 9223372036854775808) = x := by
  subst hj
  rw [← h]
  have e : ((q : Int) * 2 ^ (7 * 9)) = ((q * 9223372036854775808 : Nat) : Int) := by simp
  rw [e, wrap_u64, u64_small _ (by omega)]
  simp

theorem ret3_of {a b c d : Int} (h1 : a = c) (h2 : b = d) : Ending.returned (.tuple #[.int .u64 a, .int .i64 b, .bool true]) = .returned (.tuple #[.int .u64 c, .int .i64 d, .bool true]) := by rw [h1, h2]

set_option maxRecDepth 100000 in
set_option maxHeartbeats 800000 in
theorem zzUv_any (a : Option Addr) (n c i0 x : Nat) (xs rest : List Int) (w : World) (h : Rd w a n xs) (hn : n ≤ 549755813888) (hx : x < 18446744073709551616) (hd : xs.drop i0 = uv x ++ rest) :
    Calls Try.prog 14 #[.slice a n c, .int .i64 i0] w fun e w' => e = .returned (.tuple #[.int .u64 x, .int .i64 ((i0 + (uv x).length : Nat) : Int), .bool true]) ∧ w' = w := by
  have st0 := St.start hx hd
  have hlen := h.length
  have HX := hide hx
  clear hx hd
  go_enter Try.func14, Try.ntmps14
  go_wp2
  go_loop [1, 7, 8, 9] (fun i v sh k => ∃ (j q acc : Nat), j ≤ 9 ∧ i = .int .i64 ((i0 + j : Nat) : Int) ∧ v = .int .u64 acc ∧ sh = .int .u64 ((7 * j : Nat) : Int) ∧ k = .int .i64 j ∧ St xs rest x i0 j q acc) (fun _ _ _ k => 10 - (intOf k).toNat)
  case atStart => exact ⟨0, x, 0, by omega, by simp, rfl, rfl, rfl, st0⟩
  case round =>
    obtain ⟨j, q, acc, hj, rfl, rfl, rfl, rfl, st⟩ := hrel
    by_cases h128 : 128 ≤ q
    · have hj8 := low_bound j q hj st.hi h128
      obtain ⟨b1, b2⟩ := st.byte hj (.inl hj8)
      rw [if_neg (by omega)] at b2
      obtain ⟨bl, off, rfl, k1, k2⟩ := h.at_.resolve_left (by omega)
      have hc := k2 (i0 + j) (by omega)
      rw [b2] at hc
      have st' := st.next hj8 h128
      have hm := mask_big q
      clear k2 b2
      have hj' := or_join acc (q % 128) j st.lo (by have := st'.le; have := HX.out; omega)
      rw [show ((q % 128 : Nat) : Int) = (q : Int) % 128 from by omega] at hj'
      have HJ := hide hj'
      clear hj'
      go_wp2
      go_round
      case rel => exact ⟨j + 1, q / 128, acc + q % 128 * 2 ^ (7 * j), by omega, by go_num, by rw [HJ.out], by go_num, by go_num, st'⟩
      case measure => simp [intOf]; omega
    · obtain ⟨b1, b2⟩ := st.byte hj (.inr (by omega))
      rw [if_pos (by omega)] at b2
      obtain ⟨bl, off, rfl, k1, k2⟩ := h.at_.resolve_left (by omega)
      have hc := k2 (i0 + j) (by omega)
      rw [b2] at hc
      have hm := mask_small q (by omega)
      have hl := st.len
      rw [uvF_small _ _ (by omega)] at hl
      have hj' := or_join acc q j st.lo (by have := st.le; have := HX.out; omega)
      rw [← st.sum] at hj'
      have HJ := hide hj'
      have HL := hide hl
      have p0 : 0 < j → 0 < q := st.pos
      have h9 : j = 9 → q ≤ 1 := by
        intro e
        have := st.hi
        subst e
        simp at this
        omega
      clear k2 b2 hj' hl
      by_cases e9 : 9 ≤ j
      · have q1 := h9 (by omega)
        have q0 := p0 (by omega)
        have HJ9 := hide (or_nine j q HJ.out (by omega) q1)
        clear p0 h9
        go_wp2
        go_ret3
        exact ⟨ret3_of HJ9.out (by rw [← HL.out]; simp; omega), rfl⟩
      · by_cases e0 : j = 0
        · have e0' : ¬ 0 < j := by omega
          clear p0 h9 e0
          go_wp2
          go_ret3
          exact ⟨ret3_of HJ.out (by rw [← HL.out]; simp; omega), rfl⟩
        · have q0 := p0 (by omega)
          have e0' : 0 < j := by omega
          clear p0 h9 e0
          go_wp2
          go_ret3
          exact ⟨ret3_of HJ.out (by rw [← HL.out]; simp; omega), rfl⟩
end Go.Proofs.Qxb6614066a
