/-
  Seat b6614066a. THE WALK of zzMatchHandoff (9).
-/
import Derived.Test.Qxb6614066aDec
namespace Go.Proofs.Qxb6614066a
open Go.ChangeShapes Go.WideShapes Go.ChangeAt Go.RowKit

/-- zzUvarint once more: the place behind it under a name. -/
theorem zzUv_at (a : Option Addr) (n c i0 x : Nat) (xs rest : List Int) (w : World) (h : Rd w a n xs) (hn : n ≤ 549755813888) (hx : x < 18446744073709551616) (hd : Hid (xs.drop i0 = uv x ++ rest)) :
    Calls Try.prog 14 #[.slice a n c, .int .i64 i0] w fun e w' => ∃ i1 : Nat, e = .returned (.tuple #[.int .u64 x, .int .i64 i1, .bool true]) ∧ i1 ≤ n ∧ Hid (i1 = i0 + (uv x).length) ∧ Hid (xs.drop i1 = rest) ∧ w' = w := by
  refine (zzUv_any a n c i0 x xs rest w h hn hx hd.out).mono ?_
  rintro e w' ⟨rfl, rfl⟩
  refine ⟨_, rfl, ?_, rfl, ?_, rfl⟩
  · have h1 := congrArg List.length hd.out
    have h2 := (uv_len x).1
    have h3 := h.length
    simp at h1
    omega
  · show xs.drop (i0 + (uv x).length) = rest
    rw [← List.drop_drop, hd.out]
    simp

theorem Rd.drewN {w : World} {a : Option Addr} {n : Nat} {xs : List Int} (h : Rd w a n xs) (k : Nat) : Rd (w.drewN k) a n xs := by
  refine ⟨h.length, ?_⟩
  rcases h.at_ with h0 | ⟨b, off, e, h1, h2⟩
  · exact .inl h0
  · exact .inr ⟨b, off, e, h1, h2⟩
theorem Strs.drewN {w : World} {a : Option Addr} {n : Nat} {ss : List ByteArray} (h : Strs w a n ss) (k : Nat) : Strs (w.drewN k) a n ss := by
  refine ⟨h.length, ?_⟩
  rcases h.at_ with h0 | ⟨b, off, e, h1, h2⟩
  · exact .inl h0
  · exact .inr ⟨b, off, e, h1, h2⟩

/-- A byte of the string that stands at i2. -/
theorem byte_at {xs r : List Int} {s : ByteArray} {i2 j : Nat} (h : xs.drop i2 = nums s ++ r) (hj : j < s.size) : i2 + j < xs.length ∧ xs[i2 + j]?.getD 0 = ((s[j]'hj).toNat : Int) := by
  have hl : (nums s).length = s.size := nums_length s
  have h1 : xs[i2 + j]? = (xs.drop i2)[j]? := by simp
  have h2 : (xs.drop i2)[j]? = some ((s[j]'hj).toNat : Int) := by
    rw [h, List.getElem?_append_left (by omega)]
    simp only [nums, List.getElem?_map]
    rw [List.getElem?_eq_getElem (by simpa using hj)]
    rfl
  refine ⟨?_, by rw [h1, h2]; rfl⟩
  rw [h2] at h1
  exact (List.getElem?_eq_some_iff.1 h1).1

theorem drop_strs (ss : List ByteArray) (k : Nat) (h : k < ss.length) : strsOf (bytesOf (ss.drop k)) = uv (ss[k]?.getD ByteArray.empty).size ++ (nums (ss[k]?.getD ByteArray.empty) ++ strsOf (bytesOf (ss.drop (k + 1)))) := by
  rw [List.drop_eq_getElem_cons h, List.getElem?_eq_getElem h]
  show str (nums ss[k]) ++ strsOf (bytesOf (ss.drop (k + 1))) = _
  rw [str, nums_length, List.append_assoc]
  rfl

theorem ret2_of {a b : Int} (h1 : a = b) : Ending.returned (.tuple #[.int .i64 a, .bool true]) = .returned (.tuple #[.int .i64 b, .bool true]) := by rw [h1]

/-- What holds at the server loop's head. -/
structure At (xs rest : List Int) (ss : List ByteArray) (last i1 k : Nat) : Prop where
  drop : xs.drop i1 = strsOf (bytesOf (ss.drop k)) ++ rest
  last : i1 + (strsOf (bytesOf (ss.drop k))).length = last

set_option maxRecDepth 100000 in
set_option maxHeartbeats 1600000 in
theorem match_any (a sa : Option Addr) (n c m sc i0 : Nat) (xs rest : List Int) (sh cf fr : Int) (ss : List ByteArray) (w : World) (h : Rd w a n xs) (hs : Strs w sa m ss) (hn : n ≤ 549755813888) (hm : m ≤ 1048576) (f0 : 0 ≤ fr) (f1 : fr ≤ 18446744073709551615)
    (hS : ∀ s ∈ ss, s.size ≤ 1048576) (hd : xs.drop i0 = hand (u64 sh) (u64 cf) (u64 fr) (bytesOf ss) ++ rest) :
    Calls Try.prog 9 #[.slice a n c, .int .i64 i0, .int .i64 sh, .int .i64 cf, .int .u64 fr, .slice sa m sc] w fun e w' =>
      e = .returned (.tuple #[.int .i64 ((i0 + (hand (u64 sh) (u64 cf) (u64 fr) (bytesOf ss)).length : Nat) : Int), .bool true]) ∧ ∃ t, w' = w.drewN t := by
  have hlen := h.length
  have hsl := hs.length
  obtain ⟨f, rfl⟩ := Int.eq_ofNat_of_zero_le f0
  have hf : f < 18446744073709551616 := by omega
  rw [u64_small f hf] at hd ⊢
  have HF := hide hf
  have D0 : Hid (xs.drop i0 = uv (u64 sh) ++ (uv (u64 cf) ++ (uv f ++ (uv m ++ (strsOf (bytesOf ss) ++ rest))))) := by
    show xs.drop i0 = _
    rw [hd, hand]
    simp [bytesOf, hsl]
  have EL : Hid ((hand (u64 sh) (u64 cf) f (bytesOf ss)).length = (uv (u64 sh)).length + ((uv (u64 cf)).length + ((uv f).length + ((uv m).length + (strsOf (bytesOf ss)).length)))) := by
    show _ = _
    simp [hand, bytesOf, hsl]
  have HS := hide hS
  clear hd hf hS f0
  have ws := wrap_u64 sh
  have wc := wrap_u64 cf
  generalize (hand (u64 sh) (u64 cf) f (bytesOf ss)).length = total at EL ⊢
  go_enter Try.func9, Try.ntmps9
  go_wp2_with fail
  refine (zzUv_at a n c i0 (u64 sh) xs _ _ h hn (u64_lt sh) D0).mono ?_; rintro e w1 ⟨i1, rfl, b1, E1, D1, rfl⟩
  go_wp2_with fail
  refine (zzUv_at a n c i1 (u64 cf) xs _ _ h hn (u64_lt cf) D1).mono ?_; rintro e w2 ⟨i2, rfl, b2, E2, D2, rfl⟩
  go_wp2_with fail
  refine (zzUv_at a n c i2 f xs _ _ h hn HF.out D2).mono ?_; rintro e w3 ⟨i3, rfl, b3, E3, D3, rfl⟩
  go_wp2_with fail
  refine (zzUv_at a n c i3 m xs _ _ h hn (by omega) D3).mono ?_; rintro e w4 ⟨i4, rfl, b4, E4, D4, rfl⟩
  go_wp2_with fail
  have A0 : At xs rest ss (i0 + total) i4 0 := ⟨by simpa using D4.out, by have := E1.out; have := E2.out; have := E3.out; have := E4.out; have := EL.out; simp; omega⟩
  clear D0 D1 D2 D3 D4 E1 E2 E3 E4 EL ws wc
  go_loopw [1, 16] (fun iv kv wr => ∃ k i1 t : Nat, k ≤ m ∧ i1 ≤ n ∧ iv = .int .i64 i1 ∧ kv = .int .i64 k ∧ wr = w4.drewN t ∧ At xs rest ss (i0 + total) i1 k) (fun _ kv _ => m - (intOf kv).toNat)
  case atStart => exact ⟨0, i4, 0, Nat.zero_le _, b4, rfl, rfl, rfl, A0⟩
  case round =>
    obtain ⟨k, i5, t, hk, b5, rfl, rfl, rfl, hat⟩ := hrel
    by_cases hlt : k < m
    · obtain ⟨bs, offs, rfl, z1, z2⟩ := (hs.drewN t).at_.resolve_left (by omega)
      have hc := z2 k hlt
      have hsz : (ss[k]?.getD ByteArray.empty).size ≤ 1048576 := by
        rw [List.getElem?_eq_getElem (by omega)]
        exact HS.out _ (List.getElem_mem _)
      have hdr := drop_strs ss k (by omega)
      generalize ss[k]?.getD ByteArray.empty = s at hc hsz hdr
      have D5 : Hid (xs.drop i5 = uv s.size ++ (nums s ++ (strsOf (bytesOf (ss.drop (k + 1))) ++ rest))) := by
        show xs.drop i5 = _
        rw [hat.drop, hdr]; simp
      have L5 : Hid (i5 + ((uv s.size).length + (s.size + (strsOf (bytesOf (ss.drop (k + 1)))).length)) = i0 + total) := by
        show _ = _
        rw [← hat.last, hdr]; simp [nums_length]
      clear z2 hdr hat
      go_wp2_with fail
      refine (zzUv_at a n c i5 s.size xs _ _ (h.drewN t) hn (by omega) D5).mono ?_; rintro e w5 ⟨i6, rfl, b6, E6, D6, rfl⟩
      have hroom : i6 + s.size ≤ n := by
        have h1 := congrArg List.length D6.out
        simp [nums_length] at h1
        omega
      go_wp2_with fail
      go_loopw [18] (fun jv wr' => ∃ j t' : Nat, j ≤ s.size ∧ jv = .int .i64 j ∧ wr' = w4.drewN t') (fun jv _ => s.size - (intOf jv).toNat)
      case atStart => exact ⟨0, t, Nat.zero_le _, rfl, rfl⟩
      case round =>
        obtain ⟨j, t', hj, rfl, rfl⟩ := hrel
        by_cases hjs : j < s.size
        · obtain ⟨q1, q2⟩ := byte_at D6.out hjs
          obtain ⟨bl, off, rfl, y1, y2⟩ := h.at_.resolve_left (by omega)
          have hcb := y2 (i6 + j) (by omega)
          rw [q2] at hcb
          have i1 : (0 : Int) ≤ (i6 : Int) + (j : Int) := by omega
          have i2 : (i6 : Int) + (j : Int) < (n : Int) := by omega
          have i3 : (j : Int) < (s.size : Int) := by omega
          clear y2 q2
          go_wp2
          go_quiet (fail)
          go_wp2
          go_roundw
          case rel => exact ⟨j + 1, _, by omega, by go_num, rfl⟩
          case measure => simp [intOf]; omega
        · have hn3 : (i6 : Int) + (s.size : Int) ≤ (n : Int) := by omega
          go_wp2
          go_roundw
          case rel =>
            refine ⟨k + 1, i6 + s.size, t', by omega, by omega, by go_num, by go_num, rfl, ?_, ?_⟩
            · rw [← List.drop_drop, D6.out]
              simp [← nums_length]
            · have := E6.out
              have := L5.out
              omega
          case measure => simp [intOf]; omega
    · have e : k = m := by omega
      subst e
      have hl := hat.last
      rw [List.drop_eq_nil_of_le (by omega)] at hl
      simp [bytesOf, strsOf] at hl
      have HL := hide hl
      clear hl
      go_wp2
      go_ret2
      exact ⟨ret2_of (by have := HL.out; omega), t, rfl⟩
end Go.Proofs.Qxb6614066a
