/-
  Seat b6613868a. THE WALK of tell (30).
-/
import Derived.Test.Qxb6613868aEnl
namespace Go.Proofs.Qxb6613868a
open Go.ChangeShapes Go.WideShapes Go.ChangeAt Go.RowKit

/-- The cells of one action of 'kind' for each of 'zs'. -/
def acts (kind : Int) (zs : List Int) : List Value := zs.flatMap fun z => [.int .u8 kind, .int .u32 z, .int .u8 0]

theorem acts_snoc (kind : Int) (zs : List Int) (z : Int) : acts kind (zs ++ [z]) = acts kind zs ++ [.int .u8 kind, .int .u32 z, .int .u8 0] := by simp [acts]
theorem acts_take (kind : Int) (zs : List Int) (k : Nat) (h : k < zs.length) : acts kind (zs.take (k + 1)) = acts kind (zs.take k) ++ [.int .u8 kind, .int .u32 (zs[k]?.getD 0), .int .u8 0] := by
  rw [List.take_succ_eq_append_getElem h, acts_snoc, List.getElem?_eq_getElem h]; rfl

/-- The value is a slice of actions that reads as 'acts kind zs', its block from lo to hi - 1. -/
structure Acts (w : World) (lo hi : Nat) (a : Option Addr) (len : Nat) (kind : Int) (zs : List Int) : Prop where
  length : zs.length = len
  at_ : len = 0 ∨ ∃ b, a = some ⟨b, 0, none⟩ ∧ lo ≤ b ∧ b < hi ∧ ∀ i, i < len → w.cell? ⟨b, i * 3, none⟩ = some (.int .u8 kind) ∧ w.cell? ⟨b, i * 3 + 1, none⟩ = some (.int .u32 (zs[i]?.getD 0)) ∧ w.cell? ⟨b, i * 3 + 2, none⟩ = some (.int .u8 0)

theorem Acts.mono {w w' : World} {lo hi lo' hi' : Nat} {a : Option Addr} {len : Nat} {kind : Int} {zs : List Int} (h : Acts w lo hi a len kind zs)
    (hl : lo' ≤ lo) (hh : hi ≤ hi') (hb : ∀ k, lo ≤ k → k < hi → w'.heap[k]? = w.heap[k]?) : Acts w' lo' hi' a len kind zs := by
  refine ⟨h.length, ?_⟩
  rcases h.at_ with h0 | ⟨b, rfl, h1, h2, h3⟩
  · exact .inl h0
  · refine .inr ⟨b, rfl, by omega, by omega, fun i hi => ?_⟩
    obtain ⟨g1, g2, g3⟩ := h3 i hi
    exact ⟨(World.cell?_of_block (w := w) (hb b h1 h2)).trans g1, (World.cell?_of_block (w := w) (hb b h1 h2)).trans g2, (World.cell?_of_block (w := w) (hb b h1 h2)).trans g3⟩

theorem acts_get (kind : Int) (zs : List Int) (i : Nat) (h : i < zs.length) :
    (acts kind zs)[i * 3]? = some (.int .u8 kind) ∧ (acts kind zs)[i * 3 + 1]? = some (.int .u32 (zs[i]?.getD 0)) ∧ (acts kind zs)[i * 3 + 2]? = some (.int .u8 0) := by
  induction zs generalizing i with
  | nil => simp at h
  | cons z zs ih =>
    cases i with
    | zero => simp [acts]
    | succ i =>
      have := ih i (by simpa using h)
      have e : acts kind (z :: zs) = [.int .u8 kind, .int .u32 z, .int .u8 0] ++ acts kind zs := by simp [acts]
      rw [e]
      refine ⟨?_, ?_, ?_⟩
      · rw [List.getElem?_append_right (by simp; omega)]; simpa [Nat.add_mul] using this.1
      · rw [List.getElem?_append_right (by simp; omega)]; simpa [Nat.add_mul, show i * 3 + 3 + 1 - 3 = i * 3 + 1 from by omega] using this.2.1
      · rw [List.getElem?_append_right (by simp; omega)]; simpa [Nat.add_mul, show i * 3 + 3 + 2 - 3 = i * 3 + 2 from by omega] using this.2.2

theorem owns_lt {w : World} {base : Nat} {e : TypeId} {size g n cap : Nat} {xs : List Value} (h : w.ownsRow base e size (.slice (some ⟨g, 0, none⟩) n cap) n xs) : base ≤ g ∧ g < w.heap.size := by
  rcases h.2 with ⟨h', _⟩ | ⟨g', cap', cur, h', hb, hg, _⟩
  · simp at h'
  · simp only [Value.slice.injEq, Option.some.injEq, Addr.mk.injEq, and_true, true_and] at h'
    obtain ⟨rfl, rfl⟩ := h'
    refine ⟨hb, ?_⟩
    by_cases hh : g < w.heap.size
    · exact hh
    · rw [Array.getElem?_eq_none (by omega)] at hg; cases hg

theorem Acts_of_owns {w : World} {base g n cap : Nat} {kind : Int} {zs : List Int} (h : w.ownsRow base 46 3 (.slice (some ⟨g, 0, none⟩) n cap) n (acts kind zs)) (hz : zs.length = n) :
    Acts w base w.heap.size (some ⟨g, 0, none⟩) n kind zs := by
  obtain ⟨h1, h2⟩ := owns_lt h
  refine ⟨hz, .inr ⟨g, rfl, h1, h2, fun i hi => ?_⟩⟩
  have := acts_get kind zs i (by omega)
  rw [h.cellAt (i * 3) (by omega), h.cellAt (i * 3 + 1) (by omega), h.cellAt (i * 3 + 2) (by omega)]
  exact this

set_option maxHeartbeats 400000 in
theorem tell_any (kind : Int) (a : Option Addr) (len cap : Nat) (zs : List Int) (lo hi : Nat) (w : World) (h : Arr w lo hi a len zs) (hlen : len ≤ 65536) :
    Calls Try.prog 30 #[.int .u8 kind, .slice a len cap] w fun e w' => ∃ g cap', e = .returned (.slice (some ⟨g, 0, none⟩) len cap') ∧ w'.ownsRow w.heap.size 46 3 (.slice (some ⟨g, 0, none⟩) len cap') len (acts kind zs) ∧ w.grownBy w' none := by
  obtain ⟨i0, hi0, hz0, hz1, hz2⟩ := info_parts Try.info46
  have hmax : len ≤ maxLen := by unfold maxLen; omega
  have hb2 : i0.bytes * len ≤ 281474976710656 := by rw [hz2]; omega
  have hzl := h.length
  go_enter Try.func30, Try.ntmps30
  go_wp2_with (at_make; refine wpList_make_own _ rfl _ _ 30 rfl w.heap.size 46 i0 _ 3 Try.underlying30 hi0 hz0 hz1 _ _ _ len rfl rfl rfl hb2 hmax (Nat.le_refl _) ?_)
  intro w0 hown0 hgrow0
  go_wp2
  go_loopw [5, 13] (fun v i wr => ∃ k : Nat, k ≤ len ∧ i = .int .i64 k ∧ v = .slice (some ⟨w.heap.size, 0, none⟩) k len ∧ wr.ownsRow w.heap.size 46 3 (.slice (some ⟨w.heap.size, 0, none⟩) k len) k (acts kind (zs.take k)) ∧ w.grownBy wr none)
      (fun _ i _ => len - (intOf i).toNat)
  case atStart => exact ⟨0, Nat.zero_le _, rfl, rfl, hown0, hgrow0⟩
  case round =>
    obtain ⟨k, hk, rfl, rfl, hown, hgr⟩ := hrel
    by_cases hlt : k < len
    · obtain ⟨b, off, rfl, h1, h2, h3⟩ : ∃ b off, a = some ⟨b, off, none⟩ ∧ lo ≤ b ∧ b < hi ∧ ∀ i, i < len → w.cell? ⟨b, off + i, none⟩ = some (.int .u32 (zs[i]?.getD 0)) := h.at_.resolve_left (by omega)
      have hcx : wr.cell? ⟨b, off + k, none⟩ = some (.int .u32 (zs[k]?.getD 0)) := hgr.cell (h3 k hlt) (by simp)
      clear h3
      have hsz := (owns_lt hown).2
      have HT := hide (acts_take kind zs k (by omega))
      generalize zs[k]?.getD 0 = z at hcx HT
      go_wp2_with (at_builtin; refine wpList_append_fits _ rfl (.tmp 17) (.tmp 21) 30 rfl w.heap.size 46 i0 3 Try.underlying30 hi0 hz1 w.heap.size k len _ rfl (hown.alloc _) ⟨wr.heap.size, 0, none⟩ 1 1 [.int .u8 kind, .int .u32 z, .int .u8 0] rfl rfl ?c1 ?c2 (by omega) ?_)
      case c1 =>
        intro j u hj
        match j, hj with
        | 0, hj => simp at hj; subst hj; simp [Addr.add]
        | 1, hj => simp at hj; subst hj; simp [Addr.add]
        | 2, hj => simp at hj; subst hj; simp [Addr.add]
      case c2 => intro u hu; simp at hu; rcases hu with rfl | rfl | rfl <;> rfl
      intro w1 hown1 hgrow1
      rw [← unhide HT] at hown1
      have hg1 : w.grownBy w1 none := gb_new (gb_alloc hgr _) hgrow1 (by intro g hg; cases hg; exact Nat.le_refl _)
      clear hgrow1 hown HT
      go_wp2
      go_roundw
      case rel => exact ⟨k + 1, by omega, by go_num, rfl, hown1, hg1⟩
      case measure => simp [intOf]; omega
    · have he : k = len := by omega
      subst he
      rw [List.take_of_length_le (by omega)] at hown
      go_wp2
      go_ret
      exact ⟨_, _, rfl, hown, hgr⟩
end Go.Proofs.Qxb6613868a
