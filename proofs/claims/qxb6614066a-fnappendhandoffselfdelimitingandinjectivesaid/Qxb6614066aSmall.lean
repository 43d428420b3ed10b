/-
  Seat b6614066a. THE WALKS of zzCloneBytes (8), zzAddServers (6), zzBytes (5, 10), zzBytesEqual (12), zzSameServers (11).
-/
import Derived.Test.Qxb6614066aMatch
namespace Go.Proofs.Qxb6614066a
open Go.ChangeShapes Go.WideShapes Go.ChangeAt Go.RowKit

/-- What zzCloneBytes has laid after k rounds. -/
def filled (zs : List Int) (n k : Nat) : List Value := (zs.take k).map (Value.int .u8) ++ List.replicate (n - k) (.int .u8 0)
theorem filled_zero (zs : List Int) (n : Nat) : List.replicate n (Value.int .u8 0) = filled zs n 0 := by simp [filled]
theorem filled_set (zs : List Int) (n k : Nat) (hk : k < n) (hz : zs.length = n) : (filled zs n k).set k (.int .u8 (zs[k]?.getD 0)) = filled zs n (k + 1) := by
  unfold filled
  have h1 : n - k = (n - (k + 1)) + 1 := by omega
  have hl : ((zs.take k).map (Value.int .u8)).length = k := by simp; omega
  rw [List.set_append_right _ _ (by omega), hl, Nat.sub_self, h1, List.replicate_succ, List.set_cons_zero, List.take_succ_eq_append_getElem (by omega), List.map_append, List.append_assoc]
  simp [List.getElem?_eq_getElem (show k < zs.length by omega)]
theorem filled_get (zs : List Int) (n k : Nat) (hk : k < n) (hz : zs.length = n) : (filled zs n k)[k]? = some (.int .u8 0) := by
  unfold filled
  have hl : ((zs.take k).map (Value.int .u8)).length = k := by simp; omega
  rw [List.getElem?_append_right (by omega), hl, Nat.sub_self, List.getElem?_replicate, if_pos (by omega)]
theorem filled_end (zs : List Int) (n : Nat) (hz : zs.length = n) : filled zs n n = zs.map (Value.int .u8) := by
  simp [filled, ← hz]

set_option maxHeartbeats 400000 in
theorem clone_any (a : Option Addr) (len cap : Nat) (zs : List Int) (w : World) (h : Rd w a len zs) (hlen : len ≤ 1048576) :
    Calls Try.prog 8 #[.slice a len cap] w fun e w' => ∃ v, e = .returned v ∧ Buf w' v zs ∧ w.grownBy w' none ∧ (∀ g, v.ownBlock = some g → w.heap.size ≤ g) := by
  obtain ⟨i0, hi0, hz0, hz1, hz2⟩ := info_parts Try.info5
  have hmax : len ≤ maxLen := by unfold maxLen; omega
  have q22 : ∀ (w : World) (a : Option Addr) (l c : Nat), (binOp .eql 22 (.slice a l c) (.slice none 0 0)).run Try.prog w = .ok (.bool a.isNone) w := fun w a l c => Lib.run_eql_slice_nil w _ _ a l c 0 0 Try.underlying22
  cases a with
  | none =>
    have h0 : len = 0 := by
      rcases h.at_ with h0 | ⟨b, off, h0, _⟩
      · exact h0
      · cases h0
    have hz : zs = [] := List.eq_nil_of_length_eq_zero (by rw [h.length, h0])
    subst h0
    subst hz
    go_enter Try.func8, Try.ntmps8
    go_wp2
    go_ret
    exact ⟨_, rfl, Buf.nil _, World.grownBy.refl _ _, fun g hg => by cases hg⟩
  | some x =>
    have hb2 : i0.bytes * len ≤ 281474976710656 := by rw [hz2]; omega
    go_enter Try.func8, Try.ntmps8
    go_wp2_with (at_make; refine wpList_make_full _ rfl _ _ 22 rfl w.heap.size 5 i0 (.int .u8 0) 1 Try.underlying22 hi0 hz0 hz1 _ _ _ _ len rfl rfl rfl rfl hb2 hmax (Nat.le_refl _) ?_)
    intro w0 hown0 hgrow0
    have hown1 : w0.ownsRow w.heap.size 5 1 (.slice (some ⟨w.heap.size, 0, none⟩) len len) len (filled zs len 0) := by
      rwa [toList_madeCells_one, filled_zero zs] at hown0
    clear hown0
    go_wp2
    go_loopw [4] (fun i wr => ∃ k : Nat, k ≤ len ∧ i = .int .i64 k ∧ wr.ownsRow w.heap.size 5 1 (.slice (some ⟨w.heap.size, 0, none⟩) len len) len (filled zs len k) ∧ w.grownBy wr none)
      (fun i _ => len - (intOf i).toNat)
    case atStart => exact ⟨0, Nat.zero_le _, rfl, hown1, hgrow0⟩
    case round =>
      obtain ⟨k, hk, rfl, hown, hgr⟩ := hrel
      by_cases hlt : k < len
      · obtain ⟨b, off, rfl, h2, h3⟩ : ∃ b off, x = ⟨b, off, none⟩ ∧ b < w.heap.size ∧ ∀ i, i < len → w.cell? ⟨b, off + i, none⟩ = some (.int .u8 (zs[i]?.getD 0)) := by
          rcases h.at_ with h0 | ⟨b, off, h0, r⟩
          · omega
          · exact ⟨b, off, Option.some.inj h0, r⟩
        have hcx : wr.cell? ⟨b, off + k, none⟩ = some (.int .u8 (zs[k]?.getD 0)) := hgr.cell (h3 k hlt) (by simp)
        have hfz := hown.frozenAt k
        have hcg := hown.cellAt k (by omega)
        rw [filled_get zs len k hlt h.length] at hcg
        have hst := hown.stored k (.int .u8 (zs[k]?.getD 0))
        rw [filled_set zs len k hlt h.length] at hst
        have hnew := hst.1
        have hgr2 : w.grownBy (wr.setCell ⟨w.heap.size, k, none⟩ (.int .u8 (zs[k]?.getD 0))) none := gb_new hgr hst.2 (by intro g hg; cases hg; exact Nat.le_refl _)
        clear hst h3
        have Hnew : Hid _ := hnew
        have Hgr2 : Hid _ := hgr2
        clear hnew hgr2
        go_wp2
        go_roundw
        case rel => exact ⟨k + 1, by omega, by go_num, Hnew.out, Hgr2.out⟩
        case measure => simp [intOf]; omega
      · have he : k = len := by omega
        subst he
        rw [filled_end zs k h.length] at hown
        go_wp2
        go_ret
        refine ⟨_, rfl, ⟨by rw [h.length]; exact owns_zero hown⟩, hgr, fun g hg => ?_⟩
        cases hg
        exact Nat.le_refl _

/-- The bytes that zzAddServers counts. -/
def sumS : List ByteArray → Nat
  | [] => 0
  | s :: ss => 16 + s.size + sumS ss
theorem sumS_append (a b : List ByteArray) : sumS (a ++ b) = sumS a + sumS b := by
  induction a with
  | nil => simp [sumS]
  | cons s a ih => simp [sumS, ih]; omega
theorem sumS_take (ss : List ByteArray) (k : Nat) (h : k < ss.length) : sumS (ss.take (k + 1)) = sumS (ss.take k) + (16 + (ss[k]?.getD ByteArray.empty).size) := by
  rw [List.take_succ_eq_append_getElem h, sumS_append, List.getElem?_eq_getElem h]
  simp [sumS]
theorem strs_le (ss : List ByteArray) : (strsOf (bytesOf ss)).length ≤ sumS ss ∧ ss.length ≤ sumS ss := by
  induction ss with
  | nil => simp [bytesOf, strsOf, sumS]
  | cons s ss ih =>
    have := uv_len s.size
    have e : (strsOf (bytesOf (s :: ss))).length = (uv s.size).length + (s.size + (strsOf (bytesOf ss)).length) := by
      simp [bytesOf, strsOf, str, nums_length]
    rw [e]
    simp only [sumS, List.length_cons]
    omega

/-- What zzAddServers answers. -/
structure Added (total : Nat) (ss : List ByteArray) (e : Ending) : Prop where
  get : (∃ T : Int, e = .returned (.tuple #[.int .i64 T, .bool false])) ∨ (e = .returned (.tuple #[.int .i64 ((total + sumS ss : Nat) : Int), .bool true]) ∧ total + sumS ss ≤ 1048576 ∧ ∀ s ∈ ss, s.size ≤ 1048576)

set_option maxHeartbeats 400000 in
theorem addServers_any (total : Nat) (a : Option Addr) (m c : Nat) (ss : List ByteArray) (w : World) (ht : total ≤ 1048576) (hs : Strs w a m ss) (hm : m ≤ 9223372036854775807) (hS : ∀ s ∈ ss, s.size ≤ 9223372036854775807) :
    Calls Try.prog 6 #[.int .i64 total, .slice a m c] w fun e w' => Added total ss e ∧ w' = w := by
  have hsl := hs.length
  have HS := hide hS
  clear hS
  go_enter Try.func6, Try.ntmps6
  go_wp2
  go_loop [0, 6] (fun tv kv => ∃ k : Nat, k ≤ m ∧ kv = .int .i64 k ∧ tv = .int .i64 ((total + sumS (ss.take k) : Nat) : Int) ∧ total + sumS (ss.take k) ≤ 1048576 ∧ Hid (∀ s ∈ ss.take k, s.size ≤ 1048576)) (fun _ kv => m - (intOf kv).toNat)
  case atStart => exact ⟨0, Nat.zero_le _, rfl, by simp [sumS], by simpa [sumS] using ht, fun s hs => by simp at hs⟩
  case round =>
    obtain ⟨k, hk, rfl, rfl, hle, hall⟩ := hrel
    by_cases hlt : k < m
    · obtain ⟨b, off, rfl, h2, h3⟩ := hs.at_.resolve_left (by omega)
      have hc := h3 k hlt
      have hst : total + sumS (ss.take (k + 1)) = total + sumS (ss.take k) + (16 + (ss[k]?.getD ByteArray.empty).size) := by rw [sumS_take ss k (by omega)]; omega
      have hmem : ss[k]?.getD ByteArray.empty ∈ ss := by
        rw [List.getElem?_eq_getElem (by omega)]
        exact List.getElem_mem _
      have htk : ∀ s ∈ ss.take (k + 1), s ∈ ss.take k ∨ s = ss[k]?.getD ByteArray.empty := by
        intro s hs
        rw [List.take_succ_eq_append_getElem (by omega)] at hs
        rw [List.getElem?_eq_getElem (by omega)]
        simp only [List.mem_append, List.mem_singleton] at hs
        exact hs
      have hsz := HS.out _ hmem
      clear h3 hmem
      generalize ss[k]?.getD ByteArray.empty = s at hc hst hsz htk
      generalize total + sumS (ss.take k) = T at *
      have HT := hide htk
      have HST := hide hst
      clear htk hst
      by_cases h1 : s.size ≤ 1048576
      · by_cases h2 : T + (16 + s.size) ≤ 1048576
        · go_wp2
          go_round
          case rel => exact ⟨k + 1, by omega, by go_num, by rw [HST.out]; go_num, by rw [HST.out]; omega, fun s' hs' => (HT.out s' hs').elim (fun h => hall.out s' h) (fun h => by rw [h]; exact h1)⟩
          case measure => simp [intOf]; omega
        · go_wp2
          go_ret2
          exact ⟨⟨.inl ⟨_, rfl⟩⟩, rfl⟩
      · go_wp2
        go_ret2
        exact ⟨⟨.inl ⟨_, rfl⟩⟩, rfl⟩
    · have e : k = m := by omega
      subst e
      rw [List.take_of_length_le (by omega)] at hle hall
      rw [List.take_of_length_le (by omega)]
      go_wp2
      go_ret2
      exact ⟨⟨.inr ⟨rfl, hle, hall.out⟩⟩, rfl⟩

/-- Some bool comes back. -/
structure SomeBool (e : Ending) : Prop where
  get : ∃ b : Bool, e = .returned (.bool b)

set_option maxHeartbeats 800000 in
theorem zzBytes_any (a : Option Addr) (n c : Nat) (sh cf fr : Int) (sa : Option Addr) (m sc : Nat) (ss : List ByteArray) (w : World) (hn : n ≤ 9223372036854775807) (hs : Strs w sa m ss) (hm : m ≤ 9223372036854775807) (hS : ∀ s ∈ ss, s.size ≤ 9223372036854775807) :
    Calls Try.prog 5 #[.slice a n c, .int .i64 sh, .int .i64 cf, .int .u64 fr, .slice sa m sc] w fun e w' => SomeBool e ∧ w' = w := by
  have hsl := hs.length
  have HS := hide hS
  clear hS
  by_cases g1 : n ≤ 1048576
  · by_cases g2 : m ≤ 1048576
    · by_cases g3 : n + m ≤ 1048576
      · go_enter Try.func5, Try.ntmps5
        go_wp2
        go_loop [11, 12] (fun tv kv => ∃ k T : Nat, k ≤ m ∧ kv = .int .i64 k ∧ tv = .int .i64 T ∧ T ≤ 1048576) (fun _ kv => m - (intOf kv).toNat)
        case atStart => exact ⟨0, n + m, Nat.zero_le _, rfl, by simp, by omega⟩
        case round =>
          obtain ⟨k, T, hk, rfl, rfl, hT⟩ := hrel
          by_cases hlt : k < m
          · obtain ⟨b, off, rfl, h2, h3⟩ := hs.at_.resolve_left (by omega)
            have hc := h3 k hlt
            have hsz : (ss[k]?.getD ByteArray.empty).size ≤ 9223372036854775807 := by
              rw [List.getElem?_eq_getElem (by omega)]
              exact HS.out _ (List.getElem_mem _)
            clear h3
            generalize ss[k]?.getD ByteArray.empty = s at hc hsz
            by_cases h1 : s.size ≤ 1048576
            · by_cases h2 : T + s.size ≤ 1048576
              · go_wp2
                go_round
                case rel => exact ⟨k + 1, T + s.size, by omega, by go_num, by go_num, by omega⟩
                case measure => simp [intOf]; omega
              · go_wp2
                go_ret
                exact ⟨⟨_, rfl⟩, rfl⟩
            · go_wp2
              go_ret
              exact ⟨⟨_, rfl⟩, rfl⟩
          · go_wp2
            go_ret
            exact ⟨⟨_, rfl⟩, rfl⟩
      · go_enter Try.func5, Try.ntmps5
        go_wp2
        go_ret
        exact ⟨⟨_, rfl⟩, rfl⟩
    · go_enter Try.func5, Try.ntmps5
      go_wp2
      go_ret
      exact ⟨⟨_, rfl⟩, rfl⟩
  · go_enter Try.func5, Try.ntmps5
    go_wp2
    go_ret
    exact ⟨⟨_, rfl⟩, rfl⟩

/-- A buffer's value, written out. -/
theorem Buf.form {w : World} {v : Value} {xs : List Int} (h : Buf w v xs) : ∃ a cap, v = .slice a xs.length cap ∧ Rd w a xs.length xs ∧ (∀ x : Addr, a = some x → v.ownBlock = some x.block) := by
  rcases h.own.2 with ⟨hv, hn⟩ | ⟨g, cap, cur, hv, hg, hh, r⟩
  · refine ⟨none, 0, by rw [hv, hn], ⟨rfl, .inl hn⟩, fun x hx => by cases hx⟩
  · have hlt := (ownBlock_lt h.own (g := g) (by rw [hv]; rfl)).2
    refine ⟨some ⟨g, 0, none⟩, cap, hv, ⟨rfl, .inr ⟨g, 0, rfl, hlt, fun i hi => ?_⟩⟩, fun x hx => by cases hx; rw [hv]; rfl⟩
    have ho := h.own
    rw [hv] at ho
    rw [Nat.zero_add, ho.cellAt i (by omega), List.getElem?_map, List.getElem?_eq_getElem hi]
    rfl
theorem Rd.mono {w w' : World} {a : Option Addr} {n : Nat} {xs : List Int} (h : Rd w a n xs) (hz : w.heap.size ≤ w'.heap.size) (hb : ∀ x : Addr, a = some x → x.block < w.heap.size → w'.heap[x.block]? = w.heap[x.block]?) : Rd w' a n xs := by
  refine ⟨h.length, ?_⟩
  rcases h.at_ with h0 | ⟨b, off, rfl, h1, h2⟩
  · exact .inl h0
  · have e : ∀ o : Nat, w'.cell? ⟨b, o, none⟩ = w.cell? ⟨b, o, none⟩ := fun o => World.cell?_of_block (w := w) (a := ⟨b, o, none⟩) (hb ⟨b, off, none⟩ rfl h1)
    exact .inr ⟨b, off, rfl, by omega, fun i hi => (e _).trans (h2 i hi)⟩
theorem Strs.mono {w w' : World} {a : Option Addr} {n : Nat} {ss : List ByteArray} (h : Strs w a n ss) (hz : w.heap.size ≤ w'.heap.size) (hb : ∀ k, k < w.heap.size → w'.heap[k]? = w.heap[k]?) : Strs w' a n ss := by
  refine ⟨h.length, ?_⟩
  rcases h.at_ with h0 | ⟨b, off, rfl, h1, h2⟩
  · exact .inl h0
  · have e : ∀ o : Nat, w'.cell? ⟨b, o, none⟩ = w.cell? ⟨b, o, none⟩ := fun o => World.cell?_of_block (w := w) (a := ⟨b, o, none⟩) (hb _ h1)
    exact .inr ⟨b, off, rfl, by omega, fun i hi => (e _).trans (h2 i hi)⟩
theorem Buf.mono {w w' : World} {v : Value} {xs : List Int} (h : Buf w v xs) (hb : ∀ g, v.ownBlock = some g → w'.heap[g]? = w.heap[g]?) : Buf w' v xs := by
  refine ⟨?_⟩
  obtain ⟨h1, h2⟩ := h.own
  refine ⟨h1, ?_⟩
  rcases h2 with h2 | ⟨g, cap, cur, hv, hg, hh, r⟩
  · exact .inl h2
  · exact .inr ⟨g, cap, cur, hv, hg, by rw [hb g (by rw [hv]; rfl)]; exact hh, r⟩
end Go.Proofs.Qxb6614066a
