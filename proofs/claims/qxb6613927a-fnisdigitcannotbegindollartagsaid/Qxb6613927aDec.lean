/-
  Seat b6613927a. THE WALK of decimal (10).
-/
import Derived.Test.Qxb6613927aTag
import Derived.Laws.BytesArg
namespace Go.Proofs.Qxb6613927a
open Go.ChangeShapes Go.WideShapes Go.ChangeAt Go.RowKit

/-- Every byte is a digit. -/
structure Digits (e : Ending) : Prop where
  get : ∃ t : ByteArray, e = .returned (.string t) ∧ t.size ≤ 20 ∧ ∀ i (h : i < t.size), 48 ≤ ((t[i]'h).toNat : Int) ∧ ((t[i]'h).toNat : Int) ≤ 57

/-- The array's cells: the bytes z, those from j on digits. -/
structure Cells (w : World) (B : Nat) (z : Nat → Int) (j : Nat) : Prop where
  cell : ∀ i, i < 20 → w.cell? ⟨B, i, none⟩ = some (.int .u8 (z i))
  free : ∀ i, w.frozen? ⟨B, i, none⟩ = false
  dig : ∀ i, j ≤ i → i < 20 → 48 ≤ z i ∧ z i ≤ 57

theorem Cells.set {w : World} {B : Nat} {z : Nat → Int} {j : Nat} (h : Cells w B z (j + 1)) (hj : j < 20) (d : Int) (h1 : 48 ≤ d) (h2 : d ≤ 57) :
    Cells (w.setCell ⟨B, j, none⟩ (.int .u8 d)) B (fun i => if i = j then d else z i) j := by
  refine ⟨fun i hi => ?_, fun i => ?_, fun i h3 h4 => ?_⟩
  · by_cases e : i = j
    · subst e
      have := h.cell i hi
      simp [go_sem, this]
    · have := h.cell i hi
      simp [go_sem, this, e]
  · simp [go_sem, h.free i]
  · by_cases e : i = j
    · simp [e, h1, h2]
    · simp only [e, if_false]
      exact h.dig i (by omega) h4

theorem Try.len35 : Try.prog.arrayLen 35 = 20 := by kernel_rfl
theorem Try.elem35 : Try.prog.elem 35 = 5 := by kernel_rfl
theorem Try.desc35 : Try.prog.underlying 35 = some (.array (Try.prog.arrayLen 35) (Try.prog.elem 35)) := by kernel_rfl
theorem Try.info5 : (Try.prog.info? 5).map (fun i => (i.zero, i.size, i.bytes)) = some (some (.int .u8 0), 1, 1) := by kernel_rfl

theorem slice35 (w : World) (B j : Nat) (hj : j < 20) :
    (Instr.sliceAt 35 (.pointer (some ⟨B, 0, none⟩)) (some (.int .i64 j)) none none).run Try.prog w = .ok (.slice (some ⟨B, j, none⟩) (20 - j) (20 - j)) w := by
  obtain ⟨i0, hi0, hz0, hz1, hz2⟩ := info_parts Try.info5
  rw [run_sliceAt_array_l w 35 ⟨B, 0, none⟩ Try.desc35 .i64 j (by omega) (by rw [Try.len35]; omega), Try.len35, Try.elem35]
  have hsz : (sizeOf 5).run Try.prog w = .ok 1 w := by simp [sizeOf, typeInfo, hi0, hz1]
  rw [hsz]
  simp [Result.andThen, slicedAt, show ¬ (20 = j) from by omega, add_plain]

theorem digits_of (l : List Int) (hl : l.length ≤ 20) (h : ∀ x ∈ l, 48 ≤ x ∧ x ≤ 57) : (strOfNums l).size ≤ 20 ∧ ∀ i (hi : i < (strOfNums l).size), 48 ≤ (((strOfNums l)[i]'hi).toNat : Int) ∧ (((strOfNums l)[i]'hi).toNat : Int) ≤ 57 := by
  have hs : (strOfNums l).size = l.length := by simp [strOfNums, ByteArray.size]
  refine ⟨by omega, fun i hi => ?_⟩
  have e : (strOfNums l)[i]'hi = UInt8.ofNat (l[i]'(by omega)).toNat := by
    show (strOfNums l).data[i] = _
    simp [strOfNums]
  have hx := h (l[i]'(by omega)) (List.getElem_mem _)
  rw [e, UInt8.toNat_ofNat']
  omega

set_option maxHeartbeats 800000 in
theorem decimal_any (n : Int) (h0 : 0 ≤ n) (hn : n ≤ 18446744073709551615) (w : World) :
    Calls Try.prog 10 #[.int .u64 n] w fun e w' => Digits e ∧ Grown w w' := by
  obtain ⟨m, rfl⟩ := Int.eq_ofNat_of_zero_le h0
  by_cases e0 : m = 0
  · subst e0
    go_enter Try.func10, Try.ntmps10
    go_wp2
    go_ret
    refine ⟨⟨_, rfl, by decide, ?_⟩, Grown.refl _⟩
    intro i h
    have hi : i = 0 := by
      have : (⟨#[48]⟩ : ByteArray).size = 1 := rfl
      omega
    subst hi
    exact ⟨show (48 : Int) ≤ ((48 : UInt8).toNat : Int) by decide, show ((48 : UInt8).toNat : Int) ≤ 57 by decide⟩
  · have f0 : ((m : Int) == 0) = false := by rw [beq_eq_false_iff_ne]; omega
    go_enter Try.func10, Try.ntmps10
    go_wp2
    go_loopw [0, 4] (fun x y wr => ∃ (q j : Nat) (z : Nat → Int), x = .int .u64 q ∧ y = .int .i64 j ∧ j ≤ 20 ∧ Hid (q < 10 ^ j) ∧ (q = 0 → j < 20) ∧ q ≤ m ∧ Cells wr w.heap.size z j ∧ Grown w wr) (fun x _ _ => (intOf x).toNat)
    case atStart =>
      refine ⟨m, 20, fun _ => 0, rfl, rfl, by omega, ?_, fun h => absurd h e0, Nat.le_refl _, ⟨fun i hi => ?_, fun i => ?_, fun i h1 h2 => by omega⟩, (Grown.refl _).alloc _ _⟩
      · show m < 10 ^ 20
        omega
      · rw [World.cell?_alloc_at _ _ _ _ rfl]
        show (Array.replicate 20 (Value.int .u8 0))[i]? = _
        simp [hi]
      · simp [go_sem]
    case round =>
      obtain ⟨q, j, z, rfl, rfl, hj, hq, hq0, hqm, hc, hg⟩ := hrel
      by_cases hpos : 0 < q
      · have hj1 : 1 ≤ j := by
          by_cases h : j = 0
          · have := hq.out
            subst h
            simp at this
            omega
          · omega
        obtain ⟨j', rfl⟩ : ∃ j', j = j' + 1 := ⟨j - 1, by omega⟩
        have c1 := hc.cell j' (by omega)
        have f1 := hc.free j'
        clear hq0
        go_wp2
        refine ⟨⟨q / 10, j', _, by go_num, rfl, by omega, ?_, fun _ => by omega, by omega, hc.set (by omega) _ (by omega) (by omega), hg.setCell (Nat.le_refl _) _⟩, by simp [intOf]; omega⟩
        have := hq.out
        rw [Nat.pow_succ, Nat.mul_comm] at this
        exact Nat.div_lt_of_lt_mul this
      · have e1 : q = 0 := by omega
        subst e1
        have hj2 := hq0 rfl
        clear hq0
        have hcv : (convert 33 9 (.slice (some ⟨w.heap.size, j, none⟩) (20 - j) (20 - j))).run Try.prog wr = .ok (.string (strOfNums ((List.range (20 - j)).map fun i => z (j + i)))) wr :=
          run_convert_bytes_arg wr 33 5 Try.underlying33 Try.underlying5 w.heap.size j (20 - j) (20 - j) _ (by simp) (fun i hi => by
            rw [hc.cell (j + i) (by omega)]
            simp [List.getD, hi]) 9 Try.underlying9
        have hsl := slice35 wr w.heap.size j hj2
        go_wp2
        go_ret
        have hd := digits_of ((List.range (20 - j)).map fun i => z (j + i)) (by simp) (by
          intro x hx
          simp at hx
          obtain ⟨i, hi, rfl⟩ := hx
          exact hc.dig (j + i) (by omega) (by omega))
        exact ⟨⟨_, rfl, hd.1, hd.2⟩, hg⟩
end Go.Proofs.Qxb6613927a
