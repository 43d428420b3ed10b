/-
  Seat b6614066a. What a slice of bytes that is appended to holds ('Buf'), how it moves ('Step'), and append's laws in those words.
-/
import Derived.Test.Qxb6614066aRows
import Derived.Test.Qxb6614066aPlain
import Derived.WalkKit
import Derived.ProofKit
import Derived.Below
import Derived.WalkSmall
import Derived.Deep.QuietTactic
import Derived.BigQuiet
import Derived.WalkSpells
import Derived.ArgAppend
import Derived.Lib.AppendStr
import Derived.Deep.RegionWith
namespace Go.Proofs.Qxb6614066a
open Go.ChangeShapes Go.WideShapes Go.ChangeAt Go.RowKit

theorem hide {p : Prop} (h : p) : Hid p := h

theorem gb_trans {a b c : World} {r : Option Nat} (h : a.grownBy b r) (k : b.grownBy c r) : a.grownBy c r :=
  ⟨k.os.trans h.os, k.tape.trans h.tape, k.output.trans h.output, Nat.le_trans h.size k.size,
   fun i hi hr => (k.block i (Nat.lt_of_lt_of_le hi h.size) hr).trans (h.block i hi hr)⟩
theorem gb_new {a b c : World} {r s : Option Nat} (h : a.grownBy b r) (k : b.grownBy c s) (hs : ∀ g, s = some g → a.heap.size ≤ g) : a.grownBy c r :=
  ⟨k.os.trans h.os, k.tape.trans h.tape, k.output.trans h.output, Nat.le_trans h.size k.size,
   fun i hi hr => (k.block i (Nat.lt_of_lt_of_le hi h.size) (fun e => by have := hs i e.symm; omega)).trans (h.block i hi hr)⟩

/-- v owns the bytes xs. -/
structure Buf (w : World) (v : Value) (xs : List Int) : Prop where
  own : w.ownsRow 0 5 1 v xs.length (xs.map (Value.int .u8))

/-- From (w, v) to (w', v'): nothing old has turned but v's own block; v' lies where v lay, or in a new block. -/
structure Step (w w' : World) (v v' : Value) : Prop where
  grown : w.grownBy w' v.ownBlock
  place : v'.ownBlock = v.ownBlock ∨ ∃ g, v'.ownBlock = some g ∧ w.heap.size ≤ g

theorem Step.refl (w : World) (v : Value) : Step w w v v := ⟨World.grownBy.refl _ _, .inl rfl⟩
theorem Step.trans {a b c : World} {u v x : Value} (h : Step a b u v) (k : Step b c v x) : Step a c u x := by
  have hz := h.grown.size
  rcases h.place with e | ⟨g, e, hg⟩
  · refine ⟨gb_trans h.grown (by rw [← e]; exact k.grown), ?_⟩
    rcases k.place with e' | ⟨g', e', hg'⟩
    · exact .inl (e'.trans e)
    · exact .inr ⟨g', e', by omega⟩
  · refine ⟨gb_new h.grown k.grown (fun g' hg' => by rw [e] at hg'; cases hg'; exact hg), ?_⟩
    rcases k.place with e' | ⟨g', e', hg'⟩
    · exact .inr ⟨g, e'.trans e, hg⟩
    · exact .inr ⟨g', e', by omega⟩
theorem Step.alloc (w : World) (v : Value) (o : Obj) : Step w (w.alloc o) v v := ⟨World.grownBy_alloc w o _, .inl rfl⟩
theorem Step.block {w w' : World} {v v' : Value} (h : Step w w' v v') {k : Nat} (hk : k < w.heap.size) (hv : some k ≠ v.ownBlock) : w'.heap[k]? = w.heap[k]? := h.grown.block k hk hv

theorem Buf.alloc {w : World} {v : Value} {xs : List Int} (h : Buf w v xs) (o : Obj) : Buf (w.alloc o) v xs := ⟨h.own.alloc o⟩
theorem Buf.nil (w : World) : Buf w (.slice none 0 0) [] := ⟨World.ownsRow_nil w 0 5 1⟩

theorem Try.info5 : (Try.prog.info? 5).map (fun i => (i.zero, i.size, i.bytes)) = some (some (.int .u8 0), 1, 1) := by kernel_rfl

theorem ownBlock_lt {w : World} {base : Nat} {e : TypeId} {size : Nat} {v : Value} {n : Nat} {xs : List Value} (h : w.ownsRow base e size v n xs) {g : Nat} (hg : v.ownBlock = some g) : base ≤ g ∧ g < w.heap.size := by
  rcases h.2 with ⟨rfl, _⟩ | ⟨g', cap, cur, rfl, hb, hh, _⟩
  · simp [Value.ownBlock] at hg
  · simp [Value.ownBlock] at hg
    subst hg
    refine ⟨hb, ?_⟩
    by_cases hl : g' < w.heap.size
    · exact hl
    · rw [Array.getElem?_eq_none (by omega)] at hh; cases hh

theorem owns_zero {w : World} {base : Nat} {e : TypeId} {size : Nat} {v : Value} {n : Nat} {xs : List Value} (h : w.ownsRow base e size v n xs) : w.ownsRow 0 e size v n xs := by
  obtain ⟨h1, h2⟩ := h
  refine ⟨h1, ?_⟩
  rcases h2 with h2 | ⟨g, cap, cur, hv, _, r⟩
  · exact .inl h2
  · exact .inr ⟨g, cap, cur, hv, Nat.zero_le _, r⟩

/-- append of bytes that lie in memory. -/
theorem run_bytes {w : World} {v : Value} {xs ys : List Int} (ty : TypeId) (h : Buf w v xs) (ad : Addr) (c : Nat) (hc : ∀ j u, (ys.map (Value.int .u8))[j]? = some u → w.cell? (ad.add j) = some u) (hb : xs.length + ys.length ≤ 1099511627776) :
    ∃ v' w', (Builtin.append_ #[22, 22] ty #[v, .slice (some ad) ys.length c]).run Try.prog w = .ok v' w' ∧ Buf w' v' (xs ++ ys) ∧ Step w w' v v' := by
  obtain ⟨i0, hi, hz0, hz1, hz2⟩ := info_parts Try.info5
  have hm : xs.length + ys.length ≤ maxLen := by unfold maxLen; omega
  have ho : ∀ u ∈ ys.map (Value.int .u8), u.oneCell' = true := ints_oneCell _ _
  have hl : (ys.map (Value.int .u8)).length = ys.length * 1 := by simp
  rcases h.own.2 with ⟨hv, hn⟩ | ⟨g, cap, cur, hv, hg, hh, hnc, hcm, hcs, ht⟩
  · obtain ⟨v', w', hr, r1, r2, _⟩ := run_append_own (P := Try.prog) w w.heap.size 22 ty 5 i0 (.int .u8 0) 1 1 Try.underlying22 hi hz0 hz1 hz2 rfl (by decide) v xs.length (xs.map (Value.int .u8)) (by rw [hv, List.eq_nil_of_length_eq_zero hn]; exact World.ownsRow_nil _ _ _ _) ad ys.length c _ hl hc ho hm (by omega) (Nat.le_refl _)
    refine ⟨v', w', hr, ⟨by simpa using owns_zero r1⟩, r2, ?_⟩
    cases hob : v'.ownBlock with
    | none => exact .inl (by rw [hv]; rfl)
    | some g => exact .inr ⟨g, rfl, (ownBlock_lt r1 hob).1⟩
  · by_cases hroom : xs.length + ys.length ≤ cap
    · obtain ⟨w', hr, r1, r2⟩ := run_append_fits (P := Try.prog) w 0 22 ty 5 i0 1 Try.underlying22 hi hz1 g xs.length cap (xs.map (Value.int .u8)) (by rw [← hv]; exact h.own) ad ys.length c _ hl hc ho hroom
      rw [hv]
      exact ⟨_, w', hr, ⟨by simpa using r1⟩, r2, .inl rfl⟩
    · have hcells : ∀ j u, (xs.map (Value.int .u8))[j]? = some u → w.cell? ((⟨g, 0, none⟩ : Addr).add j) = some u := h.own.cells (g := g) (by rw [hv]; rfl)
      obtain ⟨v', w', hr, r1, r2⟩ := run_append_arg_grows (P := Try.prog) w 22 ty 5 i0 (.int .u8 0) 1 1 Try.underlying22 hi hz0 hz1 hz2 rfl (by decide) ⟨g, 0, none⟩ xs.length cap (xs.map (Value.int .u8)) (by simp) hcells ad ys.length c _ hl hc (by omega) hm (by omega)
      rw [hv]
      refine ⟨v', w', hr, ⟨by simpa using owns_zero r1⟩, gb_new (World.grownBy.refl _ _) r2 (fun g h => by cases h), ?_⟩
      rcases r1.2 with ⟨_, h0⟩ | ⟨g', cap', cur', hv', hg', _⟩
      · omega
      · exact .inr ⟨g', by rw [hv']; rfl, hg'⟩

/-- A string's bytes as numbers. -/
def nums (s : ByteArray) : List Int := s.data.toList.map fun b => (b.toNat : Int)
theorem nums_length (s : ByteArray) : (nums s).length = s.size := by
  rw [nums, List.length_map, Array.length_toList]; rfl
theorem strCells_nums (s : ByteArray) : Lib.strCells s = (nums s).map (Value.int .u8) := by
  simp [Lib.strCells, nums]

/-- append of a string's bytes. -/
theorem run_string {w : World} {v : Value} {xs : List Int} (ty : TypeId) (h : Buf w v xs) (s : ByteArray) (hb : xs.length + s.size ≤ 1099511627776) :
    ∃ v' w', (Builtin.append_ #[22, 9] ty #[v, .string s]).run Try.prog w = .ok v' w' ∧ Buf w' v' (xs ++ nums s) ∧ Step w w' v v' := by
  obtain ⟨i0, hi, hz0, hz1, hz2⟩ := info_parts Try.info5
  have hm : xs.length + s.size ≤ maxLen := by unfold maxLen; omega
  have conv : ∀ {v' : Value} {w' : World} {base : Nat}, w'.ownsRow base 5 1 v' (xs.length + s.size) (xs.map (Value.int .u8) ++ Lib.strCells s) → Buf w' v' (xs ++ nums s) := by
    intro v' w' base r
    refine ⟨?_⟩
    have := owns_zero r
    rw [strCells_nums, ← List.map_append] at this
    rw [List.length_append, nums_length]
    exact this
  rcases h.own.2 with ⟨hv, hn⟩ | ⟨g, cap, cur, hv, hg, hh, hnc, hcm, hcs, ht⟩
  · obtain ⟨v', w', hr, r1, r2, _⟩ := Lib.run_append_own_string (P := Try.prog) w w.heap.size 22 9 ty 5 i0 Try.underlying22 Try.underlying9 hi hz0 hz1 hz2 v xs.length (xs.map (Value.int .u8)) (by rw [hv, List.eq_nil_of_length_eq_zero hn]; exact World.ownsRow_nil _ _ _ _) s hm (by omega) (Nat.le_refl _)
    refine ⟨v', w', hr, conv r1, r2, ?_⟩
    cases hob : v'.ownBlock with
    | none => exact .inl (by rw [hv]; rfl)
    | some g => exact .inr ⟨g, rfl, (ownBlock_lt r1 hob).1⟩
  · obtain ⟨v', w', hr, r1, r2, _⟩ := Lib.run_append_own_string (P := Try.prog) w 0 22 9 ty 5 i0 Try.underlying22 Try.underlying9 hi hz0 hz1 hz2 v xs.length (xs.map (Value.int .u8)) h.own s hm (by omega) (Nat.zero_le _)
    refine ⟨v', w', hr, conv r1, r2, ?_⟩
    by_cases hroom : xs.length + s.size ≤ cap
    · have hr2 := Lib.run_append_room_string (P := Try.prog) w 22 9 ty 5 i0 Try.underlying22 Try.underlying9 hi hz1 g xs.length cap cur hh s hroom (by omega)
      rw [hv, hr2] at hr
      cases hr
      rw [hv]
      exact .inl rfl
    · have hcells : ∀ j u, (xs.map (Value.int .u8))[j]? = some u → w.cell? ((⟨g, 0, none⟩ : Addr).add j) = some u := h.own.cells (g := g) (by rw [hv]; rfl)
      have hr2 := Lib.run_append_grow_string (P := Try.prog) w 22 9 ty 5 i0 (.int .u8 0) Try.underlying22 Try.underlying9 hi hz0 ⟨g, 0, none⟩ xs.length cap (xs.map (Value.int .u8)) (by rw [hz1]; simp) hcells s (by omega) (by omega) (by rw [hz2]; exact growslice_fits (by omega) (by omega))
      rw [hv, hr2] at hr
      cases hr
      exact .inr ⟨w.heap.size, rfl, Nat.le_refl _⟩

theorem wp_bytes {ops : Array Oper} {rest : List Oper} {o : Oper} {a : Act} {Q : Exit → Act → World → Prop} {w : World} (hgd : o.guard = none) (s x : Operand)
    (ho : o.op = .call { callee := .builtin .append, args := #[s, x], argTypes := #[22, 22] }) (v : Value) (xs ys : List Int) (hs : a.eval s = v) (h : Buf w v xs) (ad : Addr) (m c : Nat) (hm : m = ys.length) (hx : a.eval x = .slice (some ad) m c)
    (hc : ∀ j u, (ys.map (Value.int .u8))[j]? = some u → w.cell? (ad.add j) = some u) (hb : xs.length + ys.length ≤ 1099511627776)
    (hK : ∀ v' w', Buf w' v' (xs ++ ys) → Step w w' v v' → wpList Try.prog ops Q rest (a.put o.dst v') w') : wpList Try.prog ops Q (o :: rest) a w := by
  subst hm
  refine wpList_plain hgd fun K hK' => ?_
  obtain ⟨v', w', hrun, r1, r2⟩ := run_bytes o.type h ad c hc hb
  unfold Oper.wp
  simp [execOp, ho, resolve, invoke, builtin, hs, hx, hrun, Result.andThen]
  exact hK' _ _ (hK v' w' r1 r2)

theorem wp_string {ops : Array Oper} {rest : List Oper} {o : Oper} {a : Act} {Q : Exit → Act → World → Prop} {w : World} (hgd : o.guard = none) (sl x : Operand)
    (ho : o.op = .call { callee := .builtin .append, args := #[sl, x], argTypes := #[22, 9] }) (v : Value) (xs : List Int) (hs : a.eval sl = v) (h : Buf w v xs) (s : ByteArray) (hx : a.eval x = .string s) (hb : xs.length + s.size ≤ 1099511627776)
    (hK : ∀ v' w', Buf w' v' (xs ++ nums s) → Step w w' v v' → wpList Try.prog ops Q rest (a.put o.dst v') w') : wpList Try.prog ops Q (o :: rest) a w := by
  refine wpList_plain hgd fun K hK' => ?_
  obtain ⟨v', w', hrun, r1, r2⟩ := run_string o.type h s hb
  unfold Oper.wp
  simp [execOp, ho, resolve, invoke, builtin, hs, hx, hrun, Result.andThen]
  exact hK' _ _ (hK v' w' r1 r2)
end Go.Proofs.Qxb6614066a
