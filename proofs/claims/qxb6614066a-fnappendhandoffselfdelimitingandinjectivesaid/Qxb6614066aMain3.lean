/-
  Seat b6614066a. THE FIRST LAW's WALK (3).
-/
import Derived.Test.Qxb6614066aSmall
namespace Go.Proofs.Qxb6614066a
open Go.ChangeShapes Go.WideShapes Go.ChangeAt Go.RowKit

theorem Rd.drew {w : World} {a : Option Addr} {n : Nat} {xs : List Int} (h : Rd w a n xs) : Rd w.drew a n xs := h.mono (Nat.le_refl _) (fun _ _ _ => rfl)
theorem Strs.drew {w : World} {a : Option Addr} {n : Nat} {ss : List ByteArray} (h : Strs w a n ss) : Strs w.drew a n ss := h.mono (Nat.le_refl _) (fun _ _ => rfl)
theorem strs_grown {w w' : World} {a : Option Addr} {n : Nat} {ss : List ByteArray} (h : Strs w a n ss) (g : w.grownBy w' none) : Strs w' a n ss := h.mono g.size (fun k hk => g.block k hk (by simp))
theorem apart_new {w : World} {a : Option Addr} {n : Nat} {ss : List ByteArray} {v : Value} (h : Strs w a n ss) (hv : ∀ g, v.ownBlock = some g → w.heap.size ≤ g) : n = 0 ∨ Apart a v := by
  rcases h.at_ with h0 | ⟨b, off, rfl, h1, _⟩
  · exact .inl h0
  · refine .inr ?_
    intro x hx e
    cases hx
    have := hv b e.symm
    omega

theorem rd_step {w w' w'' : World} {a : Option Addr} {n : Nat} {xs : List Int} {v v' : Value} (h : Rd w a n xs) (g : w.grownBy w' none) (s : Step w' w'' v v') (hv : ∀ g, v.ownBlock = some g → w.heap.size ≤ g) : Rd w'' a n xs := by
  refine ⟨h.length, ?_⟩
  rcases h.at_ with h0 | ⟨b, off, rfl, h1, h2⟩
  · exact .inl h0
  · have e1 : w''.heap[b]? = w.heap[b]? := (s.block (Nat.lt_of_lt_of_le h1 g.size) (fun e => by have := hv b e.symm; omega)).trans (g.block b h1 (by simp))
    have e : ∀ o : Nat, w''.cell? ⟨b, o, none⟩ = w.cell? ⟨b, o, none⟩ := fun o => World.cell?_of_block (w := w) (a := ⟨b, o, none⟩) e1
    exact .inr ⟨b, off, rfl, Nat.lt_of_lt_of_le h1 (Nat.le_trans g.size s.grown.size), fun i hi => (e _).trans (h2 i hi)⟩
/-- The bytes of the first part of a list, and of the second. -/
theorem get_left (xs T : List Int) (k : Nat) (h : k < xs.length) : (xs ++ T)[k]?.getD 0 = xs[k]?.getD 0 := by rw [List.getElem?_append_left h]
theorem get_right (xs T : List Int) (k : Nat) : (xs ++ T)[xs.length + k]?.getD 0 = T[k]?.getD 0 := by rw [List.getElem?_append_right (by omega)]; simp
theorem below_gb {B : Nat} {w w' w'' : World} (h : Below B w w') (g : w'.grownBy w'' none) (hB : B ≤ w'.heap.size) : Below B w w'' := h.grown g hB (fun k hk => by cases hk)
theorem below_step {B : Nat} {w w' w'' : World} {v v' : Value} (h : Below B w w') (s : Step w' w'' v v') (hB : B ≤ w'.heap.size) (hv : ∀ g, v.ownBlock = some g → B ≤ g) : Below B w w'' := h.grown s.grown hB hv

set_option maxRecDepth 100000 in
set_option maxHeartbeats 3200000 in
theorem main3 (a sa : Option Addr) (n c m sc : Nat) (xs : List Int) (sh cf fr : Int) (ss : List ByteArray) (w : World) (h : Rd w a n xs) (hs : Strs w sa m ss) (hn : n ≤ 9223372036854775807) (hm : m ≤ 9223372036854775807) (hS : ∀ s ∈ ss, s.size ≤ 9223372036854775807)
    (f0 : 0 ≤ fr) (f1 : fr ≤ 18446744073709551615) :
    Calls Try.prog 3 #[.slice a n c, .int .i64 sh, .int .i64 cf, .int .u64 fr, .slice sa m sc] w fun e w' => e = .returned (.bool true) ∧ Below w.heap.size w w' := by
  have HS := hide hS
  have hsl := hs.length
  have hxl := h.length
  clear hS
  go_enter Try.func3, Try.ntmps3
  go_wp2_with fail
  refine (zzBytes_any a n c sh cf fr sa m sc ss w hn hs hm HS.out).mono ?_; rintro e w' ⟨⟨b, rfl⟩, rfl⟩
  cases b
  · go_wp2_with fail
    go_ret
    exact ⟨rfl, Below.refl _ _⟩
  by_cases g1 : n ≤ 1048576
  case neg =>
    go_wp2_with fail
    go_ret
    exact ⟨rfl, Below.refl _ _⟩
  go_wp2_with fail
  refine (addServers_any n sa m sc ss _ g1 hs hm HS.out).mono ?_; rintro e w1 ⟨⟨hadd⟩, rfl⟩
  rcases hadd with ⟨T, rfl⟩ | ⟨rfl, hsum, hS⟩
  · go_wp2_with fail
    go_ret
    exact ⟨rfl, Below.refl _ _⟩
  have hle := strs_le ss
  have hT : (strsOf (bytesOf ss)).length ≤ 1048576 := by omega
  have hm2 : m ≤ 1048576 := by omega
  clear HS
  have HS := hide hS
  clear hS
  go_wp2_with fail
  have bW : Below w1.heap.size w1 (w1.alloc (.cells #[.int .i64 sh, .int .i64 cf, .int .u64 fr, .slice sa m sc] 29)) := (Below.refl _ _).alloc (Nat.le_refl _) _
  have c0 : (w1.alloc (.cells #[.int .i64 sh, .int .i64 cf, .int .u64 fr, .slice sa m sc] 29)).cell? ⟨w1.heap.size, 0, none⟩ = some (.int .i64 sh) := by rw [World.cell?_alloc_at _ _ _ _ rfl]; rfl
  have c1 : (w1.alloc (.cells #[.int .i64 sh, .int .i64 cf, .int .u64 fr, .slice sa m sc] 29)).cell? ⟨w1.heap.size, 1, none⟩ = some (.int .i64 cf) := by rw [World.cell?_alloc_at _ _ _ _ rfl]; rfl
  have c2 : (w1.alloc (.cells #[.int .i64 sh, .int .i64 cf, .int .u64 fr, .slice sa m sc] 29)).cell? ⟨w1.heap.size, 2, none⟩ = some (.int .u64 fr) := by rw [World.cell?_alloc_at _ _ _ _ rfl]; rfl
  have c3 : (w1.alloc (.cells #[.int .i64 sh, .int .i64 cf, .int .u64 fr, .slice sa m sc] 29)).cell? ⟨w1.heap.size, 3, none⟩ = some (.slice sa m sc) := by rw [World.cell?_alloc_at _ _ _ _ rfl]; rfl
  have zW : w1.heap.size < (w1.alloc (.cells #[.int .i64 sh, .int .i64 cf, .int .u64 fr, .slice sa m sc] 29)).heap.size := by simp
  have hW : Rd (w1.alloc (.cells #[.int .i64 sh, .int .i64 cf, .int .u64 fr, .slice sa m sc] 29)) a n xs := h.mono (by simp) (fun x _ hx => bW.block _ hx)
  have hsW : Strs (w1.alloc (.cells #[.int .i64 sh, .int .i64 cf, .int .u64 fr, .slice sa m sc] 29)) sa m ss := hs.mono (by simp) (fun k hk => bW.block _ hk)
  generalize w1.alloc (.cells #[.int .i64 sh, .int .i64 cf, .int .u64 fr, .slice sa m sc] 29) = W at *
  generalize hB : w1.heap.size = B at *
  have HB := hide hB
  clear hB
  go_region_with (first
    | (go_at_call 8; refine (clone_any a n c xs _ (by exact hW.drew) g1).mono ?_; rintro e w2 ⟨v2, rfl, hb2, gr2, nw2⟩; have d0 := gr2.cell c0 (by simp); have d1 := gr2.cell c1 (by simp); have d2 := gr2.cell c2 (by simp); have d3 := gr2.cell c3 (by simp))
    | (go_at_call 7; refine (zzHandoff_any v2 xs sh cf fr sa m sc ss _ (by exact hb2) (by omega) (by exact strs_grown hsW.drew gr2) (by exact apart_new hsW.drew nw2) hm2 hT HS.out f0 f1).mono ?_; rintro e w3 ⟨v3, rfl, hb3, S3⟩))
  all_goals
    have zB : B < w2.heap.size := Nat.lt_of_lt_of_le zW gr2.size
    have nB : some B ≠ v2.ownBlock := fun e => by have := nw2 B e.symm; have : W.drew.heap.size = W.heap.size := rfl; omega
    have eB : ∀ i : Nat, w3.cell? ⟨B, i, none⟩ = w2.cell? ⟨B, i, none⟩ := fun i => World.cell?_of_block (a := ⟨B, i, none⟩) (S3.block zB nB)
    have e0 := (eB 0).trans d0
    have e1 := (eB 1).trans d1
    have e2 := (eB 2).trans d2
    have e3 := (eB 3).trans d3
    have hs2 := strs_grown hsW.drew gr2
    have hs3 := hs2.step S3 (apart_new hsW.drew nw2)
    have b2 : Below B w1 w2 := below_gb (bW.drew) gr2 (by show B ≤ W.heap.size; omega)
    have b3 : Below B w1 w3 := below_step b2 S3 (by omega) (fun g hg => by have := nw2 g hg; have : W.drew.heap.size = W.heap.size := rfl; omega)
    clear d0 d1 d2 d3 c0 c1 c2 c3 eB hb2 hs2
    obtain ⟨ao, co, rfl, rdo, blk⟩ := hb3.form
    go_wp2_with fail
    refine (zzHandoff_any (.slice none 0 0) [] sh cf fr sa m sc ss _ (Buf.nil _) (by simp) hs3 (.inr (fun x _ => by simp [Value.ownBlock])) hm2 hT HS.out f0 f1).mono ?_; rintro e w4 ⟨v4, rfl, hb4, S4⟩
    rw [List.nil_append] at hb4
    have g4 : w3.grownBy w4 none := S4.grown
    have b4 : Below B w1 w4 := below_gb b3 g4 (Nat.le_trans (Nat.le_of_lt zB) S3.grown.size)
    have rdo4 := rdo.mono g4.size (fun x _ hx => g4.block _ hx (by simp))
    have hs4 := strs_grown hs3 g4
    have hl : (hand (u64 sh) (u64 cf) (u64 fr) (bytesOf ss)).length ≤ 1048616 := by
      have h1 := uv_len (u64 sh)
      have h2 := uv_len (u64 cf)
      have h3 := uv_len (u64 fr)
      have h4 := uv_len (bytesOf ss).length
      simp [hand]
      omega
    generalize hTT : hand (u64 sh) (u64 cf) (u64 fr) (bytesOf ss) = T at *
    have HTT := hide hTT
    have HD : Hid (T.drop 0 = hand (u64 sh) (u64 cf) (u64 fr) (bytesOf ss) ++ []) := by show T.drop 0 = _; rw [hTT]; simp
    clear hTT
    obtain ⟨at', ct, rfl, rdt, _⟩ := hb4.form
    have rda3 : Rd w3 a n xs := rd_step hW.drew gr2 S3 nw2
    have rda4 := rda3.mono g4.size (fun x _ hx => g4.block _ hx (by simp))
    have hlo : (xs ++ T).length = n + T.length := by simp [hxl]
    rw [hlo] at rdo4
    clear hb3 hb4 hs3 S3 S4 blk rda3 e0 e1 e2 e3 rdo hW hsW gr2 nw2 nB zB b2 b3 bW hlo
    go_wp2_with fail
    go_loopw [16] (fun kv wr => ∃ k t : Nat, k ≤ n ∧ kv = .int .i64 k ∧ wr = w4.drewN t) (fun kv _ => n - (intOf kv).toNat)
    case atStart => exact ⟨0, 0, Nat.zero_le _, rfl, rfl⟩
    case round =>
      obtain ⟨k, t, hk, rfl, rfl⟩ := hrel
      by_cases hlt : k < n
      · obtain ⟨bo, fo, rfl, y1, y2⟩ := rdo4.at_.resolve_left (by omega)
        obtain ⟨ba, fa, rfl, y3, y4⟩ := rda4.at_.resolve_left (by omega)
        have q1 := y2 k (by omega)
        have q2 := y4 k hlt
        rw [get_left xs T k (by omega)] at q1
        clear y2 y4
        generalize xs[k]?.getD 0 = z at q1 q2
        have i1 : (k : Int) < (n : Int) := by omega
        have i2 : (k : Int) < (n : Int) + (T.length : Int) := by omega
        go_wp2
        go_quiet (fail)
        go_wp2
        go_roundw
        case rel => exact ⟨k + 1, _, by omega, by go_num, rfl⟩
        case measure => simp [intOf]; omega
      · go_wp2_with fail
        go_loopw [17] (fun kv wr => ∃ j t : Nat, j ≤ T.length ∧ kv = .int .i64 j ∧ wr = w4.drewN t) (fun kv _ => T.length - (intOf kv).toNat)
        case atStart => exact ⟨0, t, Nat.zero_le _, rfl, rfl⟩
        case round =>
          obtain ⟨j, t2, hj, rfl, rfl⟩ := hrel
          by_cases hjt : j < T.length
          · obtain ⟨bo, fo, rfl, y1, y2⟩ := rdo4.at_.resolve_left (by omega)
            obtain ⟨bt, ft, rfl, y3, y4⟩ := rdt.at_.resolve_left (by omega)
            have q1 := y2 (n + j) (by omega)
            have q2 := y4 j hjt
            rw [← hxl, get_right xs T j, hxl] at q1
            clear y2 y4
            generalize T[j]?.getD 0 = z at q1 q2
            have i1 : (j : Int) < (T.length : Int) := by omega
            have i2 : (n : Int) + (j : Int) < (n : Int) + (T.length : Int) := by omega
            have i3 : (0 : Int) ≤ (n : Int) + (j : Int) := by omega
            go_wp2
            go_quiet (fail)
            go_wp2
            go_roundw
            case rel => exact ⟨j + 1, _, by omega, by go_num, rfl⟩
            case measure => simp [intOf]; omega
          · go_wp2_with fail
            refine (match_any at' sa T.length ct m sc 0 T [] sh cf fr ss _ (rdt.drewN t2) (hs4.drewN t2) (by omega) hm2 f0 f1 HS.out HD.out).mono ?_; rintro e w5 ⟨rfl, t3, rfl⟩
            rw [HTT.out, Nat.zero_add]
            go_wp2_with fail
            go_ret
            exact ⟨by simp, b4.os, b4.tape, b4.output, b4.size, fun k hk => b4.block k (by have := HB.out; omega)⟩
end Go.Proofs.Qxb6614066a
