/-
  Seat b6614066a. THE WALKS of zzBytes of the second law (10), zzBytesEqual (12), zzSameServers (11).
-/
import Derived.Test.Qxb6614066aMain3
namespace Go.Proofs.Qxb6614066a
open Go.ChangeShapes Go.WideShapes Go.ChangeAt Go.RowKit

/-- A bool that says p. -/
structure Says (p : Prop) (e : Ending) : Prop where
  get : ∃ b : Bool, e = .returned (.bool b) ∧ (b = true ↔ p)

theorem getD_eq {α : Type} (xs ys : List α) (d : α) (n : Nat) (hx : xs.length = n) (hy : ys.length = n) (h : ∀ i, i < n → xs[i]?.getD d = ys[i]?.getD d) : xs = ys := by
  apply List.ext_getElem (by omega)
  intro i h1 h2
  have := h i (by omega)
  rw [List.getElem?_eq_getElem h1, List.getElem?_eq_getElem h2] at this
  exact this

set_option maxRecDepth 100000 in
set_option maxHeartbeats 800000 in
theorem bytesEqual_any (a b : Option Addr) (n c m d : Nat) (xs ys : List Int) (w : World) (h : Rd w a n xs) (k : Rd w b m ys) (hn : n ≤ 9223372036854775807) (hm : m ≤ 9223372036854775807) :
    Calls Try.prog 12 #[.slice a n c, .slice b m d] w fun e w' => Says (xs = ys) e ∧ ∃ t, w' = w.drewN t := by
  have hx := h.length
  have hy := k.length
  by_cases hnm : n = m
  case neg =>
    have hne : xs ≠ ys := fun e => hnm (by rw [← hx, ← hy, e])
    have i0 : ¬ (n : Int) = (m : Int) := by omega
    have HNE := hide hne
    clear hne
    go_enter Try.func12, Try.ntmps12
    go_wp2
    go_ret
    exact ⟨⟨_, rfl, by simp [HNE.out]⟩, 0, rfl⟩
  subst hnm
  go_enter Try.func12, Try.ntmps12
  go_wp2
  go_loopw [5] (fun kv wr => ∃ i t : Nat, i ≤ n ∧ kv = .int .i64 i ∧ Hid (∀ j, j < i → xs[j]?.getD 0 = ys[j]?.getD 0) ∧ wr = w.drewN t) (fun kv _ => n - (intOf kv).toNat)
  case atStart => exact ⟨0, 0, Nat.zero_le _, rfl, fun j hj => by omega, rfl⟩
  case round =>
    obtain ⟨i, t, hi, rfl, hall, rfl⟩ := hrel
    by_cases hlt : i < n
    · obtain ⟨bo, fo, rfl, y1, y2⟩ := h.at_.resolve_left (by omega)
      obtain ⟨ba, fa, rfl, y3, y4⟩ := k.at_.resolve_left (by omega)
      have q1 := y2 i hlt
      have q2 := y4 i hlt
      clear y2 y4
      have hno : xs[i]?.getD 0 ≠ ys[i]?.getD 0 → xs ≠ ys := fun h e => h (by rw [e])
      have hst : xs[i]?.getD 0 = ys[i]?.getD 0 → ∀ j, j < i + 1 → xs[j]?.getD 0 = ys[j]?.getD 0 := fun e j hj => by
        by_cases hji : j < i
        · exact hall.out j hji
        · have : j = i := by omega
          rw [this]; exact e
      have HNO := hide hno
      have HST := hide hst
      clear hno hst
      generalize xs[i]?.getD 0 = z at q1 HNO HST
      generalize ys[i]?.getD 0 = z' at q2 HNO HST
      have i1 : (i : Int) < (n : Int) := by omega
      by_cases hz : z = z'
      · subst hz
        have HS := hide (HST.out rfl)
        clear HST HNO
        go_wp2
        go_quiet (fail)
        go_wp2
        go_roundw
        case rel => exact ⟨i + 1, _, by omega, by go_num, HS.out, rfl⟩
        case measure => simp [intOf]; omega
      · have HN := hide (HNO.out hz)
        clear HST HNO
        go_wp2
        go_quiet (fail)
        go_wp2
        go_ret
        exact ⟨⟨_, rfl, by simp [HN.out]⟩, _, World.drewN_drewN ..⟩
    · have e : i = n := by omega
      subst e
      have HE := hide (getD_eq xs ys 0 i hx hy hall.out)
      go_wp2
      go_ret
      exact ⟨⟨_, rfl, by simp [HE.out]⟩, t, rfl⟩

set_option maxRecDepth 100000 in
set_option maxHeartbeats 800000 in
theorem sameServers_any (a b : Option Addr) (n c m d : Nat) (xs ys : List ByteArray) (w : World) (h : Strs w a n xs) (k : Strs w b m ys) (hn : n ≤ 9223372036854775807) (hm : m ≤ 9223372036854775807) :
    Calls Try.prog 11 #[.slice a n c, .slice b m d] w fun e w' => Says (xs = ys) e ∧ ∃ t, w' = w.drewN t := by
  have hx := h.length
  have hy := k.length
  by_cases hnm : n = m
  case neg =>
    have hne : xs ≠ ys := fun e => hnm (by rw [← hx, ← hy, e])
    have i0 : ¬ (n : Int) = (m : Int) := by omega
    have HNE := hide hne
    clear hne
    go_enter Try.func11, Try.ntmps11
    go_wp2
    go_ret
    exact ⟨⟨_, rfl, by simp [HNE.out]⟩, 0, rfl⟩
  subst hnm
  go_enter Try.func11, Try.ntmps11
  go_wp2
  go_loopw [5] (fun kv wr => ∃ i t : Nat, i ≤ n ∧ kv = .int .i64 i ∧ Hid (∀ j, j < i → xs[j]?.getD ByteArray.empty = ys[j]?.getD ByteArray.empty) ∧ wr = w.drewN t) (fun kv _ => n - (intOf kv).toNat)
  case atStart => exact ⟨0, 0, Nat.zero_le _, rfl, fun j hj => by omega, rfl⟩
  case round =>
    obtain ⟨i, t, hi, rfl, hall, rfl⟩ := hrel
    by_cases hlt : i < n
    · obtain ⟨bo, fo, rfl, y1, y2⟩ := h.at_.resolve_left (by omega)
      obtain ⟨ba, fa, rfl, y3, y4⟩ := k.at_.resolve_left (by omega)
      have q1 := y2 i hlt
      have q2 := y4 i hlt
      clear y2 y4
      have hno : xs[i]?.getD ByteArray.empty ≠ ys[i]?.getD ByteArray.empty → xs ≠ ys := fun h e => h (by rw [e])
      have hst : xs[i]?.getD ByteArray.empty = ys[i]?.getD ByteArray.empty → ∀ j, j < i + 1 → xs[j]?.getD ByteArray.empty = ys[j]?.getD ByteArray.empty := fun e j hj => by
        by_cases hji : j < i
        · exact hall.out j hji
        · have : j = i := by omega
          rw [this]; exact e
      have HNO := hide hno
      have HST := hide hst
      clear hno hst
      generalize xs[i]?.getD ByteArray.empty = z at q1 HNO HST
      generalize ys[i]?.getD ByteArray.empty = z' at q2 HNO HST
      have i1 : (i : Int) < (n : Int) := by omega
      by_cases hz : z = z'
      · subst hz
        have HS := hide (HST.out rfl)
        clear HST HNO
        go_wp2
        go_quiet (fail)
        go_wp2
        go_roundw
        case rel => exact ⟨i + 1, _, by omega, by go_num, HS.out, rfl⟩
        case measure => simp [intOf]; omega
      · have HN := hide (HNO.out hz)
        have hzl : (z.toList == z'.toList) = false := by
          rw [beq_eq_false_iff_ne]
          exact fun e => hz (bytes_inj (by rwa [ByteArray.toList_eq, ByteArray.toList_eq] at e))
        clear HST HNO
        go_wp2
        go_quiet (fail)
        go_wp2
        go_ret
        exact ⟨⟨_, rfl, by simp [HN.out]⟩, _, World.drewN_drewN ..⟩
    · have e : i = n := by omega
      subst e
      have HE := hide (getD_eq xs ys ByteArray.empty i hx hy hall.out)
      go_wp2
      go_ret
      exact ⟨⟨_, rfl, by simp [HE.out]⟩, t, rfl⟩

set_option maxRecDepth 100000 in
set_option maxHeartbeats 1600000 in
theorem zzBytes2_any (a : Option Addr) (n c : Nat) (sh cf fr sh' cf' fr' : Int) (sa sb : Option Addr) (m sc m' sc' : Nat) (ss tt : List ByteArray) (w : World) (hn : n ≤ 9223372036854775807)
    (hs : Strs w sa m ss) (hm : m ≤ 9223372036854775807) (hS : ∀ s ∈ ss, s.size ≤ 9223372036854775807) (ht : Strs w sb m' tt) (hm' : m' ≤ 9223372036854775807) (hT : ∀ s ∈ tt, s.size ≤ 9223372036854775807) :
    Calls Try.prog 10 #[.slice a n c, .int .i64 sh, .int .i64 cf, .int .u64 fr, .slice sa m sc, .int .i64 sh', .int .i64 cf', .int .u64 fr', .slice sb m' sc'] w fun e w' => SomeBool e ∧ w' = w := by
  have hsl := hs.length
  have htl := ht.length
  have HS := hide hS
  have HT := hide hT
  clear hS hT
  go_enter Try.func10, Try.ntmps10
  by_cases g1 : n ≤ 1048576
  case neg =>
    go_wp2
    go_ret
    exact ⟨⟨_, rfl⟩, rfl⟩
  by_cases g2 : m ≤ 1048576
  case neg =>
    go_wp2
    go_ret
    exact ⟨⟨_, rfl⟩, rfl⟩
  by_cases g3 : n + m ≤ 1048576
  case neg =>
    go_wp2
    go_ret
    exact ⟨⟨_, rfl⟩, rfl⟩
  go_wp2
  go_loop [19, 20] (fun tv kv => ∃ k T : Nat, k ≤ m ∧ kv = .int .i64 k ∧ tv = .int .i64 T ∧ T ≤ 1048576) (fun _ kv => m - (intOf kv).toNat)
  case atStart => exact ⟨0, n + m, Nat.zero_le _, rfl, by simp, by omega⟩
  case round =>
    obtain ⟨k, T, hk, rfl, rfl, hT⟩ := hrel
    by_cases hlt : k < m
    · obtain ⟨b, off, rfl, h2, h3⟩ := hs.at_.resolve_left (by omega)
      have hc := h3 k hlt
      have hsz : (ss[k]?.getD ByteArray.empty).size ≤ 9223372036854775807 := by
        rw [List.getElem?_eq_getElem (by omega)]
        exact HS.out _ (List.getElem_mem _)
      clear h3
      generalize ss[k]?.getD ByteArray.empty = s at hc hsz
      by_cases h1 : s.size ≤ 1048576
      case neg =>
        go_wp2
        go_ret
        exact ⟨⟨_, rfl⟩, rfl⟩
      by_cases h2 : T + s.size ≤ 1048576
      case neg =>
        go_wp2
        go_ret
        exact ⟨⟨_, rfl⟩, rfl⟩
      go_wp2
      go_round
      case rel => exact ⟨k + 1, T + s.size, by omega, by go_num, by go_num, by omega⟩
      case measure => simp [intOf]; omega
    · by_cases g4 : m' ≤ 1048576
      case neg =>
        go_wp2
        go_ret
        exact ⟨⟨_, rfl⟩, rfl⟩
      by_cases g5 : T + m' ≤ 1048576
      case neg =>
        go_wp2
        go_ret
        exact ⟨⟨_, rfl⟩, rfl⟩
      go_wp2
      go_loop [19, 21] (fun tv kv => ∃ k T : Nat, k ≤ m' ∧ kv = .int .i64 k ∧ tv = .int .i64 T ∧ T ≤ 1048576) (fun _ kv => m' - (intOf kv).toNat)
      case atStart => exact ⟨0, T + m', Nat.zero_le _, rfl, by simp, by omega⟩
      case round =>
        obtain ⟨j, T', hj, rfl, rfl, hT'⟩ := hrel
        by_cases hlt2 : j < m'
        · obtain ⟨b, off, rfl, h2, h3⟩ := ht.at_.resolve_left (by omega)
          have hc := h3 j hlt2
          have hsz : (tt[j]?.getD ByteArray.empty).size ≤ 9223372036854775807 := by
            rw [List.getElem?_eq_getElem (by omega)]
            exact HT.out _ (List.getElem_mem _)
          clear h3
          generalize tt[j]?.getD ByteArray.empty = s at hc hsz
          by_cases h1 : s.size ≤ 1048576
          case neg =>
            go_wp2
            go_ret
            exact ⟨⟨_, rfl⟩, rfl⟩
          by_cases h2 : T' + s.size ≤ 1048576
          case neg =>
            go_wp2
            go_ret
            exact ⟨⟨_, rfl⟩, rfl⟩
          go_wp2
          go_round
          case rel => exact ⟨j + 1, T' + s.size, by omega, by go_num, by go_num, by omega⟩
          case measure => simp [intOf]; omega
        · go_wp2
          go_ret
          exact ⟨⟨_, rfl⟩, rfl⟩
end Go.Proofs.Qxb6614066a
