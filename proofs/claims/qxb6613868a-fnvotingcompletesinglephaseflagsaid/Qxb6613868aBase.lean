/-
  Seat b6613868a. Plain predicates on worlds (no walk): what a slice of u32 holds, what a transaction's block holds.
-/
import Derived.Test.Qxb6613868aRows
import Derived.WalkKit
import Derived.ProofKit
import Derived.Below
import Derived.WalkSmall
import Derived.Deep.QuietTactic
import Derived.BigQuiet
import Derived.WalkSpells
namespace Go.Proofs.Qxb6613868a
open Go.ChangeShapes Go.WideShapes Go.ChangeAt Go.RowKit

/-- A slice of 'len' numbers 'zs', readable, its block among lo .. hi - 1 (a slice without elements: whatever). -/
structure Arr (w : World) (lo hi : Nat) (a : Option Addr) (len : Nat) (zs : List Int) : Prop where
  length : zs.length = len
  at_ : len = 0 ∨ ∃ b off, a = some ⟨b, off, none⟩ ∧ lo ≤ b ∧ b < hi ∧ ∀ i, i < len → w.cell? ⟨b, off + i, none⟩ = some (.int .u32 (zs[i]?.getD 0))

theorem Arr.mono {w w' : World} {lo hi lo' hi' : Nat} {a : Option Addr} {len : Nat} {zs : List Int} (h : Arr w lo hi a len zs)
    (hl : lo' ≤ lo) (hh : hi ≤ hi') (hb : ∀ k, lo ≤ k → k < hi → w'.heap[k]? = w.heap[k]?) : Arr w' lo' hi' a len zs := by
  refine ⟨h.length, ?_⟩
  rcases h.at_ with h0 | ⟨b, off, rfl, h1, h2, h3⟩
  · exact .inl h0
  · exact .inr ⟨b, off, rfl, by omega, by omega, fun i hi => (World.cell?_of_block (w := w) (hb b h1 h2)).trans (h3 i hi)⟩

theorem hide {p : Prop} (h : p) : Hid p := h
theorem unhide {p : Prop} (h : Hid p) : p := h

theorem gb_trans {a b c : World} {r : Option Nat} (h : a.grownBy b r) (k : b.grownBy c r) : a.grownBy c r :=
  ⟨k.os.trans h.os, k.tape.trans h.tape, k.output.trans h.output, Nat.le_trans h.size k.size,
   fun i hi hr => (k.block i (Nat.lt_of_lt_of_le hi h.size) hr).trans (h.block i hi hr)⟩
/-- The second step writes a row that was not there at first. -/
theorem gb_new {a b c : World} {r s : Option Nat} (h : a.grownBy b r) (k : b.grownBy c s) (hs : ∀ g, s = some g → a.heap.size ≤ g) : a.grownBy c r :=
  ⟨k.os.trans h.os, k.tape.trans h.tape, k.output.trans h.output, Nat.le_trans h.size k.size,
   fun i hi hr => (k.block i (Nat.lt_of_lt_of_le hi h.size) (fun e => by have := hs i e.symm; omega)).trans (h.block i hi hr)⟩
theorem gb_drew {a b : World} {r : Option Nat} (h : a.grownBy b r) : a.grownBy b.drew r := ⟨h.os, h.tape, h.output, h.size, h.block⟩
theorem gb_drewN {a b : World} {r : Option Nat} (h : a.grownBy b r) (n : Nat) : a.grownBy (b.drewN n) r := by
  exact ⟨h.os, h.tape, h.output, h.size, h.block⟩
theorem gb_alloc {a b : World} {r : Option Nat} (h : a.grownBy b r) (o : Obj) : a.grownBy (b.alloc o) r := gb_trans h (World.grownBy_alloc b o r)
theorem gb_set {a b : World} {r : Nat} (h : a.grownBy b (some r)) (o : Nat) (u : Value) : a.grownBy (b.setCell ⟨r, o, none⟩ u) (some r) :=
  gb_trans h ⟨rfl, rfl, rfl, by simp [World.setCell], fun k _ hr => Below.heap_setCell _ _ _ _ (fun e => hr (by simp [e]))⟩

theorem Try.info41 : (Try.prog.info? 41).map (fun i => (i.zero, i.size, i.bytes)) = some (some (.int .u32 0), 1, 4) := by kernel_rfl
theorem Try.info46 : (Try.prog.info? 46).map (fun i => (i.zero, i.size, i.bytes)) = some (some (.agg #[.int .u8 0, .int .u32 0, .int .u8 0]), 3, 12) := by kernel_rfl
end Go.Proofs.Qxb6613868a
