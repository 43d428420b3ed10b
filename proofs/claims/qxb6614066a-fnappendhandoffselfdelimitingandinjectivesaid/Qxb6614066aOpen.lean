/-
  Seat b6614066a. From the form's reading of an argument to 'Rd' and 'Strs'.
-/
import Derived.Test.Qxb6614066aSmall
import Derived.OpenShut
import Derived.SliceStrings
namespace Go.Proofs.Qxb6614066a
open Go.ChangeShapes Go.WideShapes Go.ChangeAt Go.RowKit

theorem Try.cells5 : Try.prog.cellsOf 5 = 1 := by kernel_rfl
theorem Try.cells9 : Try.prog.cellsOf 9 = 1 := by kernel_rfl

theorem block_of {w : World} {b o : Nat} {v : Value} (h : w.cell? ⟨b, o, none⟩ = some v) : b < w.heap.size := by
  by_cases hh : b < w.heap.size
  · exact hh
  · rw [World.cell?, Array.getElem?_eq_none (by simpa using hh)] at h
    simp at h

theorem rd_of {H : Type} {enc : TypeId × Value → H} {W : World} {base : Nat} {sp : Nat → Bool} {held : Bool} {fuel : Nat} {a : Option Addr} {len cap : Nat} {x : DataW H × List MemPlace}
    (hf : DataW.trod enc Try.prog W base sp held fuel 22 (Value.slice a len cap).cells.toList = some x) : ∃ zs, Rd W a len zs ∧ len ≤ 9223372036854775807 := by
  rcases open_ints Try.underlying22 Try.underlying5 Try.cells5 hf with ⟨hcs, _⟩ | ⟨y, l, c, zs, hcs, _, hl, hm, hz, _, hcell, hwz⟩
  · simp [Value.cells] at hcs
    obtain ⟨rfl, rfl, rfl⟩ := hcs
    exact ⟨[], ⟨rfl, .inl rfl⟩, by omega⟩
  · simp [Value.cells] at hcs
    obtain ⟨rfl, rfl, rfl⟩ := hcs
    have hlz : len ≤ zs.length := by rw [hz]; split <;> omega
    refine ⟨zs.take len, ⟨by simp; omega, ?_⟩, by unfold maxLen at hm; omega⟩
    by_cases h0 : len = 0
    · exact .inl h0
    · obtain ⟨b, off, spot⟩ := y
      have c0 := hcell 0 (by omega)
      have hspot : spot = none := by simpa [Addr.add] using World.cell?_spot c0
      subst hspot
      rw [add_plain] at c0
      refine .inr ⟨b, off, rfl, block_of c0, fun i hi => ?_⟩
      have ci := hcell i (by omega)
      rw [add_plain] at ci
      rw [ci, List.getElem?_take, if_pos hi]
      simp

theorem strs_of {H : Type} {enc : TypeId × Value → H} {W : World} {base : Nat} {sp : Nat → Bool} {held : Bool} {fuel : Nat} {a : Option Addr} {len cap : Nat} {x : DataW H × List MemPlace}
    (hf : DataW.trod enc Try.prog W base sp held fuel 24 (Value.slice a len cap).cells.toList = some x) : ∃ ss, Strs W a len ss ∧ len ≤ 9223372036854775807 ∧ ∀ s ∈ ss, s.size ≤ 9223372036854775807 := by
  rcases open_strings Try.underlying24 Try.underlying9 Try.cells9 hf with ⟨hcs, _⟩ | ⟨y, l, c, ss, hcs, _, hl, hm, hz, _, hcell, hws⟩
  · simp [Value.cells] at hcs
    obtain ⟨rfl, rfl, rfl⟩ := hcs
    exact ⟨[], ⟨rfl, .inl rfl⟩, by omega, fun s hs => by simp at hs⟩
  · simp [Value.cells] at hcs
    obtain ⟨rfl, rfl, rfl⟩ := hcs
    have hlz : len ≤ ss.length := by rw [hz]; split <;> omega
    refine ⟨ss.take len, ⟨by simp; omega, ?_⟩, by unfold maxLen at hm; omega, fun s hs => by have := hws s (List.mem_of_mem_take hs); unfold maxLen at this; omega⟩
    by_cases h0 : len = 0
    · exact .inl h0
    · obtain ⟨b, off, spot⟩ := y
      have c0 := hcell 0 (by omega)
      have hspot : spot = none := by simpa [Addr.add] using World.cell?_spot c0
      subst hspot
      rw [add_plain] at c0
      refine .inr ⟨b, off, rfl, block_of c0, fun i hi => ?_⟩
      have ci := hcell i (by omega)
      rw [add_plain] at ci
      rw [ci, List.getElem?_take, if_pos hi]
      simp
end Go.Proofs.Qxb6614066a
