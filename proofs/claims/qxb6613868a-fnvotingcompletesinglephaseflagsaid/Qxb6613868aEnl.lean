/-
  Seat b6613868a. THE WALKS of toEnl (7) and sameEnl (27).
-/
import Derived.Test.Qxb6613868aBase
namespace Go.Proofs.Qxb6613868a
open Go.ChangeShapes Go.WideShapes Go.ChangeAt Go.RowKit

/-- What toEnl has laid after k rounds. -/
def filled (zs : List Int) (n k : Nat) : List Value := (zs.take k).map (Value.int .u32) ++ List.replicate (n - k) (.int .u32 0)

theorem filled_zero (zs : List Int) (n : Nat) : List.replicate n (Value.int .u32 0) = filled zs n 0 := by simp [filled]
theorem filled_set (zs : List Int) (n k : Nat) (hk : k < n) (hz : zs.length = n) : (filled zs n k).set k (.int .u32 (zs[k]?.getD 0)) = filled zs n (k + 1) := by
  unfold filled
  have h1 : n - k = (n - (k + 1)) + 1 := by omega
  have hl : ((zs.take k).map (Value.int .u32)).length = k := by simp; omega
  rw [List.set_append_right _ _ (by omega), hl, Nat.sub_self, h1, List.replicate_succ, List.set_cons_zero, List.take_succ_eq_append_getElem (by omega), List.map_append, List.append_assoc]
  simp [List.getElem?_eq_getElem (show k < zs.length by omega)]

theorem filled_get (zs : List Int) (n k : Nat) (hk : k < n) (hz : zs.length = n) : (filled zs n k)[k]? = some (.int .u32 0) := by
  unfold filled
  have hl : ((zs.take k).map (Value.int .u32)).length = k := by simp; omega
  rw [List.getElem?_append_right (by omega), hl, Nat.sub_self, List.getElem?_replicate, if_pos (by omega)]

theorem Arr_of_owns {w : World} {base g n cap : Nat} {zs : List Int} (h : w.ownsRow base 41 1 (.slice (some ⟨g, 0, none⟩) n cap) n (filled zs n n)) (hz : zs.length = n) (hb : base ≤ g) (hg : g < w.heap.size) :
    Arr w base w.heap.size (some ⟨g, 0, none⟩) n zs := by
  refine ⟨hz, .inr ⟨g, 0, rfl, hb, hg, fun i hi => ?_⟩⟩
  rw [Nat.zero_add, h.cellAt i (by omega)]
  simp [filled, hz, hi]

theorem Try.cells41 : Try.prog.cellsOf 41 = 1 := by kernel_rfl

set_option maxHeartbeats 400000 in
theorem toEnl_any (a : Option Addr) (len cap : Nat) (zs : List Int) (lo hi : Nat) (w : World) (h : Arr w lo hi a len zs) (hlen : len ≤ 65536) :
    Calls Try.prog 7 #[.slice a len cap] w fun e w' => ∃ a' cap', e = .returned (.slice a' len cap') ∧ Arr w' w.heap.size w'.heap.size a' len zs ∧ w.grownBy w' none := by
  obtain ⟨i0, hi0, hz0, hz1, hz2⟩ := info_parts Try.info41
  have hmax : len ≤ maxLen := by unfold maxLen; omega
  have q22 : ∀ (w : World) (a : Option Addr) (l c : Nat), (binOp .eql 22 (.slice a l c) (.slice none 0 0)).run Try.prog w = .ok (.bool a.isNone) w := fun w a l c => Lib.run_eql_slice_nil w _ _ a l c 0 0 Try.underlying22
  cases a with
  | none =>
    have h0 : len = 0 := by
      rcases h.at_ with h0 | ⟨b, off, h0, _⟩
      · exact h0
      · cases h0
    subst h0
    go_enter Try.func7, Try.ntmps7
    go_wp2
    go_ret
    exact ⟨_, _, rfl, ⟨h.length, .inl rfl⟩, World.grownBy.refl _ _⟩
  | some x =>
    have hb2 : i0.bytes * len ≤ 281474976710656 := by rw [hz2]; omega
    go_enter Try.func7, Try.ntmps7
    go_wp2_with (at_make; refine wpList_make_full _ rfl _ _ 28 rfl w.heap.size 41 i0 (.int .u32 0) 1 Try.underlying28 hi0 hz0 hz1 _ _ _ _ len rfl rfl rfl rfl hb2 hmax (Nat.le_refl _) ?_)
    intro w0 hown0 hgrow0
    have hown1 : w0.ownsRow w.heap.size 41 1 (.slice (some ⟨w.heap.size, 0, none⟩) len len) len (filled zs len 0) := by
      rwa [toList_madeCells_one, filled_zero zs] at hown0
    have hsz : w.heap.size < w0.heap.size := by
      rcases hown1.2 with ⟨h', _⟩ | ⟨g', cap', cur, h', _, hg, _⟩
      · simp at h'
      · simp only [Value.slice.injEq, Option.some.injEq, Addr.mk.injEq, and_true, true_and] at h'
        obtain ⟨rfl, rfl⟩ := h'
        by_cases hh : w.heap.size < w0.heap.size
        · exact hh
        · rw [Array.getElem?_eq_none (by omega)] at hg; cases hg
    go_wp2
    go_loopw [4] (fun i wr => ∃ k : Nat, k ≤ len ∧ i = .int .i64 k ∧ wr.ownsRow w.heap.size 41 1 (.slice (some ⟨w.heap.size, 0, none⟩) len len) len (filled zs len k) ∧ w.grownBy wr none ∧ w.heap.size < wr.heap.size)
      (fun i _ => len - (intOf i).toNat)
    case atStart => exact ⟨0, Nat.zero_le _, rfl, hown1, hgrow0, hsz⟩
    case round =>
      obtain ⟨k, hk, rfl, hown, hgr, hszr⟩ := hrel
      by_cases hlt : k < len
      · obtain ⟨b, off, rfl, h1, h2, h3⟩ : ∃ b off, x = ⟨b, off, none⟩ ∧ lo ≤ b ∧ b < hi ∧ ∀ i, i < len → w.cell? ⟨b, off + i, none⟩ = some (.int .u32 (zs[i]?.getD 0)) := by
          rcases h.at_ with h0 | ⟨b, off, h0, r⟩
          · omega
          · exact ⟨b, off, Option.some.inj h0, r⟩
        have hcx : wr.cell? ⟨b, off + k, none⟩ = some (.int .u32 (zs[k]?.getD 0)) := hgr.cell (h3 k hlt) (by simp)
        have hfz := hown.frozenAt k
        have hcg := hown.cellAt k (by omega)
        rw [filled_get zs len k hlt h.length] at hcg
        have hst := hown.stored k (.int .u32 (zs[k]?.getD 0))
        rw [filled_set zs len k hlt h.length] at hst
        have hnew := hst.1
        have hgr2 : w.grownBy (wr.setCell ⟨w.heap.size, k, none⟩ (.int .u32 (zs[k]?.getD 0))) none := gb_new hgr hst.2 (by intro g hg; cases hg; exact Nat.le_refl _)
        clear hst h3
        have Hnew : Hid _ := hnew
        have Hgr2 : Hid _ := hgr2
        clear hnew hgr2
        go_wp2
        go_roundw
        case rel => exact ⟨k + 1, by omega, by go_num, Hnew.out, Hgr2.out, by simpa using hszr⟩
        case measure => simp [intOf]; omega
      · have he : k = len := by omega
        subst he
        go_wp2
        go_ret
        exact ⟨_, _, rfl, Arr_of_owns hown h.length (Nat.le_refl _) hszr, hgr⟩

theorem sameEnl_any (a a' : Option Addr) (len cap cap' : Nat) (zs : List Int) (lo hi lo' hi' : Nat) (w : World) (h : Arr w lo hi a len zs) (h' : Arr w lo' hi' a' len zs) (hlen : len ≤ 65536) :
    Calls Try.prog 27 #[.slice a len cap, .slice a' len cap'] w fun e w' => e = .returned (.bool true) ∧ ∃ n, w' = w.drewN n := by
  go_enter Try.func27, Try.ntmps27
  go_wp2
  go_loopw [5] (fun i wr => ∃ k : Nat, k ≤ len ∧ i = .int .i64 k ∧ ∃ n, wr = w.drewN n)
      (fun i _ => len - (intOf i).toNat)
  case atStart => exact ⟨0, Nat.zero_le _, rfl, 0, rfl⟩
  case round =>
    obtain ⟨k, hk, rfl, n, rfl⟩ := hrel
    by_cases hlt : k < len
    · obtain ⟨b, off, rfl, h1, h2, h3⟩ : ∃ b off, a = some ⟨b, off, none⟩ ∧ lo ≤ b ∧ b < hi ∧ ∀ i, i < len → w.cell? ⟨b, off + i, none⟩ = some (.int .u32 (zs[i]?.getD 0)) := h.at_.resolve_left (by omega)
      obtain ⟨b', off', rfl, h1', h2', h3'⟩ : ∃ b off, a' = some ⟨b, off, none⟩ ∧ lo' ≤ b ∧ b < hi' ∧ ∀ i, i < len → w.cell? ⟨b, off + i, none⟩ = some (.int .u32 (zs[i]?.getD 0)) := h'.at_.resolve_left (by omega)
      have c1 := h3 k hlt
      have c2 := h3' k hlt
      clear h3 h3'
      have i1 : (k : Int) < (len : Int) := by omega
      go_wp2
      go_quiet (fail)
      go_wp2
      go_roundw
      case rel => exact ⟨k + 1, by omega, by go_num, _, rfl⟩
      case measure => simp [intOf]; omega
    · go_wp2
      go_ret
      exact ⟨rfl, n, rfl⟩
end Go.Proofs.Qxb6613868a
