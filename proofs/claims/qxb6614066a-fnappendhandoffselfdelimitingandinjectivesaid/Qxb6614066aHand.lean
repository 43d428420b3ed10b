/-
  Seat b6614066a. THE WALKS of appendString (17), appendStrings (16), appendHandoff (13), ZZappendHandoff (7).
-/
import Derived.Test.Qxb6614066aUv
namespace Go.Proofs.Qxb6614066a
open Go.ChangeShapes Go.WideShapes Go.ChangeAt Go.RowKit

set_option maxHeartbeats 800000 in
theorem appendString_any (v : Value) (xs : List Int) (s : ByteArray) (w : World) (hb : Buf w v xs) (hn : xs.length ≤ 274877906944) (hs : s.size ≤ 1048576) :
    Calls Try.prog 17 #[v, .string s] w fun e w' => ∃ v', e = .returned v' ∧ Buf w' v' (xs ++ str (nums s)) ∧ Step w w' v v' := by
  have hl := uv_len s.size
  go_enter Try.func17, Try.ntmps17
  go_wp2_with fail
  refine (uvarint_any v xs s.size _ (by omega) hb (by omega)).mono ?_; rintro e w1 ⟨v1, rfl, hb1, hs1⟩
  go_wp2_with (at_builtin; refine wp_string rfl (.tmp 10) (.tmp 11) rfl v1 (xs ++ uv s.size) rfl hb1 s rfl (by simp; omega) ?_)
  intro v2 w2 hb2 hs2
  have hst := hs1.trans hs2
  clear hs1 hs2
  go_wp2
  go_ret
  refine ⟨_, rfl, ?_, hst⟩
  rw [str, nums_length, ← List.append_assoc]
  first | exact hb2 | simpa using hb2

/-- A slice of strings, readable. -/
structure Strs (w : World) (a : Option Addr) (n : Nat) (ss : List ByteArray) : Prop where
  length : ss.length = n
  at_ : n = 0 ∨ ∃ b off, a = some ⟨b, off, none⟩ ∧ b < w.heap.size ∧ ∀ i, i < n → w.cell? ⟨b, off + i, none⟩ = some (.string (ss[i]?.getD ByteArray.empty))

/-- The slice's block is none of v's. -/
def Apart (a : Option Addr) (v : Value) : Prop := ∀ x : Addr, a = some x → some x.block ≠ v.ownBlock

theorem Strs.step {w w' : World} {v v' : Value} {a : Option Addr} {n : Nat} {ss : List ByteArray} (h : Strs w a n ss) (k : Step w w' v v') (ha : n = 0 ∨ Apart a v) : Strs w' a n ss := by
  refine ⟨h.length, ?_⟩
  rcases h.at_ with h0 | ⟨b, off, rfl, h2, h3⟩
  · exact .inl h0
  · rcases ha with h0 | ha
    · exact .inl h0
    · have e : ∀ o : Nat, w'.cell? ⟨b, o, none⟩ = w.cell? ⟨b, o, none⟩ := fun o => World.cell?_of_block (w := w) (a := ⟨b, o, none⟩) (k.block h2 (ha ⟨b, off, none⟩ rfl))
      exact .inr ⟨b, off, rfl, Nat.lt_of_lt_of_le h2 k.grown.size, fun i hi => (e _).trans (h3 i hi)⟩

/-- The strings' bytes. -/
def bytesOf (ss : List ByteArray) : List (List Int) := ss.map nums

theorem take_bytes (ss : List ByteArray) (k : Nat) (h : k < ss.length) : strsOf (bytesOf (ss.take (k + 1))) = strsOf (bytesOf (ss.take k)) ++ str (nums (ss[k]?.getD ByteArray.empty)) := by
  rw [List.take_succ_eq_append_getElem h, bytesOf, List.map_append, strsOf_append, List.getElem?_eq_getElem h]
  simp [bytesOf, strsOf]
theorem take_le (ss : List ByteArray) (k : Nat) : (strsOf (bytesOf (ss.take k))).length ≤ (strsOf (bytesOf ss)).length := by
  have : strsOf (bytesOf ss) = strsOf (bytesOf (ss.take k)) ++ strsOf (bytesOf (ss.drop k)) := by
    unfold bytesOf
    rw [← strsOf_append, ← List.map_append, List.take_append_drop]
  rw [this]; simp

set_option maxHeartbeats 800000 in
theorem appendStrings_any (v : Value) (xs : List Int) (a : Option Addr) (n c : Nat) (ss : List ByteArray) (w : World) (hb : Buf w v xs) (hn : xs.length ≤ 137438953472) (hs : Strs w a n ss) (ha : n = 0 ∨ Apart a v) (hnn : n ≤ 1048576)
    (hT : (strsOf (bytesOf ss)).length ≤ 1048576) (hS : ∀ s ∈ ss, s.size ≤ 1048576) :
    Calls Try.prog 16 #[v, .slice a n c] w fun e w' => ∃ v', e = .returned v' ∧ Buf w' v' (xs ++ (uv n ++ strsOf (bytesOf ss))) ∧ Step w w' v v' := by
  have hl := uv_len n
  have hsl := hs.length
  go_enter Try.func16, Try.ntmps16
  go_wp2_with fail
  refine (uvarint_any v xs n _ (by omega) hb (by omega)).mono ?_; rintro e w1 ⟨v1, rfl, hb1, hs1⟩
  have HS := hide hS
  clear hS
  go_wp2_with fail
  go_loopw [0, 14] (fun v' i wr => ∃ k : Nat, k ≤ n ∧ i = .int .i64 k ∧ Buf wr v' ((xs ++ uv n) ++ strsOf (bytesOf (ss.take k))) ∧ Step w wr v v') (fun _ i _ => n - (intOf i).toNat)
  case atStart => exact ⟨0, Nat.zero_le _, rfl, by simpa [bytesOf, strsOf] using hb1, hs1⟩
  case round =>
    obtain ⟨k, hk, rfl, hbr, hst⟩ := hrel
    by_cases hlt : k < n
    · obtain ⟨b, off, rfl, h2, h3⟩ := (hs.step hst ha).at_.resolve_left (by omega)
      have hc := h3 k hlt
      have ht := take_bytes ss k (by omega)
      have hle := take_le ss k
      have hsz : (ss[k]?.getD ByteArray.empty).size ≤ 1048576 := by
        rw [List.getElem?_eq_getElem (by omega)]
        exact HS.out _ (List.getElem_mem _)
      clear h3
      generalize ss[k]?.getD ByteArray.empty = s at hc ht hsz
      have HT := hide ht
      clear ht
      go_wp2_with fail
      refine (appendString_any _ _ s _ hbr (by simp; omega) hsz).mono ?_; rintro e w2 ⟨v2, rfl, hb2, hs2⟩
      rw [List.append_assoc (xs ++ uv n), ← HT.out] at hb2
      have hst2 := hst.trans hs2
      clear hs2 hbr
      go_wp2_with fail
      go_roundw
      case rel => exact ⟨k + 1, by omega, by go_num, hb2, hst2⟩
      case measure => simp [intOf]; omega
    · have e : k = n := by omega
      subst e
      rw [List.take_of_length_le (by omega)] at hbr
      go_wp2_with fail
      go_ret
      exact ⟨_, rfl, by rw [← List.append_assoc]; exact hbr, hst⟩

/-- uint64(x) of an int. -/
def u64 (x : Int) : Nat := (x % 18446744073709551616).toNat
theorem u64_lt (x : Int) : u64 x < 18446744073709551616 := by unfold u64; omega

theorem wrap_u64 (x : Int) : IntKind.u64.wrap x = ((u64 x : Nat) : Int) := by
  unfold u64
  simp [IntKind.wrap, IntKind.bits, IntKind.signed]
  try omega
theorem u64_small (m : Nat) (h : m < 18446744073709551616) : u64 (m : Int) = m := by unfold u64; omega

theorem Buf.noBlock {w : World} {v : Value} {xs : List Int} (h : Buf w v xs) : some w.heap.size ≠ v.ownBlock := by
  intro e
  have := (ownBlock_lt h.own e.symm).2
  omega

theorem apart_step {w w' : World} {v v' : Value} {a : Option Addr} {n : Nat} {ss : List ByteArray} (ha : n = 0 ∨ Apart a v) (hs : Strs w a n ss) (k : Step w w' v v') : n = 0 ∨ Apart a v' := by
  rcases ha with h0 | ha
  · exact .inl h0
  rcases hs.at_ with h0 | ⟨b, off, rfl, h2, _⟩
  · exact .inl h0
  · refine .inr ?_
    intro x hx
    cases hx
    rcases k.place with e | ⟨g, e, hg⟩
    · rw [e]; exact ha _ rfl
    · rw [e]; simp; omega

set_option maxHeartbeats 800000 in
theorem appendHandoff_any (v : Value) (xs : List Int) (sh cf fr : Int) (a : Option Addr) (n c : Nat) (ss : List ByteArray) (w : World) (hb : Buf w v xs) (hn : xs.length ≤ 68719476736) (hs : Strs w a n ss) (ha : n = 0 ∨ Apart a v) (hnn : n ≤ 1048576)
    (hT : (strsOf (bytesOf ss)).length ≤ 1048576) (hS : ∀ s ∈ ss, s.size ≤ 1048576) (f0 : 0 ≤ fr) (f1 : fr ≤ 18446744073709551615) :
    Calls Try.prog 13 #[v, .agg #[.int .i64 sh, .int .i64 cf, .int .u64 fr, .slice a n c]] w fun e w' => ∃ v', e = .returned v' ∧ Buf w' v' (xs ++ hand (u64 sh) (u64 cf) (u64 fr) (bytesOf ss)) ∧ Step w w' v v' := by
  have HS := hide hS
  clear hS
  obtain ⟨f, rfl⟩ := Int.eq_ofNat_of_zero_le f0
  have hf : f < 18446744073709551616 := by omega
  rw [u64_small f hf]
  have HF := hide hf
  clear hf
  have l1 := uv_len (u64 sh)
  have l2 := uv_len (u64 cf)
  have l3 := uv_len f
  have nb := hb.noBlock
  have cellOf : ∀ (w' : World) (v' : Value) (o : Obj), Step (w.alloc o) w' v v' → ∀ i, w'.cell? ⟨w.heap.size, i, none⟩ = (w.alloc o).cell? ⟨w.heap.size, i, none⟩ :=
    fun _ _ _ S i => World.cell?_of_block (a := ⟨w.heap.size, i, none⟩) (S.block (by simp) nb)
  have CELL := hide cellOf
  clear cellOf
  go_enter Try.func13, Try.ntmps13
  go_wp2_with fail
  rw [wrap_u64 sh]
  refine (uvarint_any v xs (u64 sh) _ (u64_lt sh) (hb.alloc _) (by omega)).mono ?_; rintro e w1 ⟨v1, rfl, hb1, S1⟩
  have c1 := CELL.out _ _ _ S1 1
  rw [World.cell?_alloc_at _ _ _ _ rfl] at c1
  go_wp2_with fail
  rw [wrap_u64 cf]
  refine (uvarint_any v1 _ (u64 cf) _ (u64_lt cf) hb1 (by simp; omega)).mono ?_; rintro e w2 ⟨v2, rfl, hb2, s2⟩
  have S2 := S1.trans s2
  have c2 := CELL.out _ _ _ S2 2
  rw [World.cell?_alloc_at _ _ _ _ rfl] at c2
  clear s2 c1
  go_wp2_with fail
  refine (uvarint_any v2 _ f _ HF.out hb2 (by simp; omega)).mono ?_; rintro e w3 ⟨v3, rfl, hb3, s3⟩
  have S3 := S2.trans s3
  have c3 := CELL.out _ _ _ S3 3
  rw [World.cell?_alloc_at _ _ _ _ rfl] at c3
  clear s3 c2
  have T3 := (Step.alloc w v _).trans S3
  go_wp2_with fail
  refine (appendStrings_any v3 _ a n c ss _ hb3 (by simp; omega) (hs.step T3 ha) (apart_step ha hs T3) hnn hT HS.out).mono ?_; rintro e w4 ⟨v4, rfl, hb4, s4⟩
  have T4 := T3.trans s4
  clear s4 c3 S1 S2 S3
  go_wp2_with fail
  go_ret
  refine ⟨_, rfl, ?_, T4⟩
  have e : xs ++ uv (u64 sh) ++ uv (u64 cf) ++ uv f ++ (uv n ++ strsOf (bytesOf ss)) = xs ++ hand (u64 sh) (u64 cf) f (bytesOf ss) := by
    simp [hand, bytesOf, hs.length]
  rw [← e]
  exact hb4

/-- ZZappendHandoff hands its arguments on. -/
theorem zzHandoff_any (v : Value) (xs : List Int) (sh cf fr : Int) (a : Option Addr) (n c : Nat) (ss : List ByteArray) (w : World) (hb : Buf w v xs) (hn : xs.length ≤ 68719476736) (hs : Strs w a n ss) (ha : n = 0 ∨ Apart a v) (hnn : n ≤ 1048576)
    (hT : (strsOf (bytesOf ss)).length ≤ 1048576) (hS : ∀ s ∈ ss, s.size ≤ 1048576) (f0 : 0 ≤ fr) (f1 : fr ≤ 18446744073709551615) :
    Calls Try.prog 7 #[v, .agg #[.int .i64 sh, .int .i64 cf, .int .u64 fr, .slice a n c]] w fun e w' => ∃ v', e = .returned v' ∧ Buf w' v' (xs ++ hand (u64 sh) (u64 cf) (u64 fr) (bytesOf ss)) ∧ Step w w' v v' := by
  have H : ∀ o, Hid (Calls Try.prog 13 #[v, .agg #[.int .i64 sh, .int .i64 cf, .int .u64 fr, .slice a n c]] (w.alloc o) fun e w' => ∃ v', e = .returned v' ∧ Buf w' v' (xs ++ hand (u64 sh) (u64 cf) (u64 fr) (bytesOf ss)) ∧ Step w w' v v') := by
    intro o
    refine (appendHandoff_any v xs sh cf fr a n c ss (w.alloc o) (hb.alloc o) hn (hs.step (Step.alloc w v o) ha) ha hnn hT hS f0 f1).mono ?_
    rintro e w' ⟨v', rfl, h1, h2⟩
    exact ⟨v', rfl, h1, (Step.alloc w v o).trans h2⟩
  clear hS
  go_enter Try.func7, Try.ntmps7
  go_wp2_with fail
  refine ((H _).out).mono ?_; rintro e w1 ⟨v1, rfl, hb1, S1⟩
  go_wp2_with fail
  go_ret
  exact ⟨_, rfl, hb1, S1⟩
end Go.Proofs.Qxb6614066a
