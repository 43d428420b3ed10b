/-
  Seat b6613941aF. THE WALKS of zzB1EntryFields (6), (*Struct).Field (11), ZZnewEntry (8).
-/
import Derived.Test.Qxb6613941aFmtErr
namespace Go.Proofs.Qxb6613941aFmt
open Go.RowKit Go.Extern.Stop Go.Stop Go.Extern
set_option linter.unusedVariables false

/-- The entry's struct at block s: its three fields, each with a label, a position and null. -/
structure Ent (w : World) (s : Nat) : Prop where
  get : ∃ ga f0 f1 f2 : Nat, s < w.heap.size ∧ ga < w.heap.size ∧ f0 < w.heap.size ∧ f1 < w.heap.size ∧ f2 < w.heap.size ∧
    w.cell? ⟨s, 0, none⟩ = some (.slice (some ⟨ga, 0, none⟩) 3 3) ∧
    w.cell? ⟨ga, 0, none⟩ = some (.pointer (some ⟨f0, 0, none⟩)) ∧ w.cell? ⟨ga, 1, none⟩ = some (.pointer (some ⟨f1, 0, none⟩)) ∧ w.cell? ⟨ga, 2, none⟩ = some (.pointer (some ⟨f2, 0, none⟩)) ∧
    w.cell? ⟨f0, 0, none⟩ = some (.string ⟨#[112, 97, 116, 104, 69, 110, 99, 111, 100, 105, 110, 103]⟩) ∧ w.cell? ⟨f1, 0, none⟩ = some (.string ⟨#[115, 116, 114, 105, 112, 80, 114, 101, 102, 105, 120]⟩) ∧ w.cell? ⟨f2, 0, none⟩ = some (.string ⟨#[114, 101, 103, 105, 115, 116, 114, 121]⟩) ∧
    w.cell? ⟨f0, 4, none⟩ = some .nilIface ∧ w.cell? ⟨f2, 4, none⟩ = some .nilIface ∧
    (∃ nm l c, w.cell? ⟨f1, 1, none⟩ = some (.string nm) ∧ w.cell? ⟨f1, 2, none⟩ = some (.int .i64 l) ∧ w.cell? ⟨f1, 3, none⟩ = some (.int .i64 c)) ∧
    (∃ nm l c, w.cell? ⟨f2, 1, none⟩ = some (.string nm) ∧ w.cell? ⟨f2, 2, none⟩ = some (.int .i64 l) ∧ w.cell? ⟨f2, 3, none⟩ = some (.int .i64 c))

theorem Ent.below {w w' : World} {s : Nat} (h : Ent w s) (b : Below w.heap.size w w') : Ent w' s := by
  obtain ⟨ga, f0, f1, f2, z0, z1, z2, z3, z4, a0, a1, a2, a3, a4, a5, a6, a7, a8, ⟨nm, l, c, a9, a10, a11⟩, ⟨nm', l', c', a12, a13, a14⟩⟩ := h.get
  have e : ∀ x o, x < w.heap.size → w'.cell? ⟨x, o, none⟩ = w.cell? ⟨x, o, none⟩ := fun x o hx => b.cell (p := ⟨x, o, none⟩) hx
  have z := b.size
  exact ⟨ga, f0, f1, f2, by omega, by omega, by omega, by omega, by omega, (e _ _ z0).trans a0, (e _ _ z1).trans a1, (e _ _ z1).trans a2, (e _ _ z1).trans a3, (e _ _ z2).trans a4, (e _ _ z3).trans a5, (e _ _ z4).trans a6, (e _ _ z2).trans a7, (e _ _ z4).trans a8,
    ⟨nm, l, c, (e _ _ z3).trans a9, (e _ _ z3).trans a10, (e _ _ z3).trans a11⟩, ⟨nm', l', c', (e _ _ z4).trans a12, (e _ _ z4).trans a13, (e _ _ z4).trans a14⟩⟩

set_option maxHeartbeats 800000 in
theorem fields_any (w : World) : Calls Tryf.prog 6 #[] w fun e w' => ∃ s, e = .returned (.pointer (some ⟨s, 0, none⟩)) ∧ Ent w' s ∧ Below w.heap.size w w' := by
  go_enter Tryf.func6, Tryf.ntmps6
  go_wp2
  go_ret
  refine ⟨_, rfl, ⟨w.heap.size + 1 + 1 + 1, w.heap.size, w.heap.size + 1, w.heap.size + 1 + 1, ?_⟩, ?_⟩
  · simp [go_sem]
  · exact (((((Below.refl _ _).alloc (Nat.le_refl _) _).alloc (by simp) _).alloc (by simp; omega) _).alloc (by simp; omega) _).alloc (by simp; omega) _

set_option maxHeartbeats 800000 in
theorem field_path (w : World) (s ga f0 f1 f2 : Nat) (a0 : w.cell? ⟨s, 0, none⟩ = some (.slice (some ⟨ga, 0, none⟩) 3 3))
    (a1 : w.cell? ⟨ga, 0, none⟩ = some (.pointer (some ⟨f0, 0, none⟩))) (a2 : w.cell? ⟨ga, 1, none⟩ = some (.pointer (some ⟨f1, 0, none⟩))) (a3 : w.cell? ⟨ga, 2, none⟩ = some (.pointer (some ⟨f2, 0, none⟩)))
    (a4 : w.cell? ⟨f0, 0, none⟩ = some (.string ⟨#[112, 97, 116, 104, 69, 110, 99, 111, 100, 105, 110, 103]⟩)) (a5 : w.cell? ⟨f1, 0, none⟩ = some (.string ⟨#[115, 116, 114, 105, 112, 80, 114, 101, 102, 105, 120]⟩)) (a6 : w.cell? ⟨f2, 0, none⟩ = some (.string ⟨#[114, 101, 103, 105, 115, 116, 114, 121]⟩)) :
    Calls Tryf.prog 11 #[.pointer (some ⟨s, 0, none⟩), .string ⟨#[112, 97, 116, 104, 69, 110, 99, 111, 100, 105, 110, 103]⟩] w fun e w' => e = .returned (.pointer (some ⟨f0, 0, none⟩)) ∧ w' = w := by
  go_enter Tryf.func11, Tryf.ntmps11
  go_wp2
  go_loop [12] (fun i => ∃ k : Nat, i = .int .i64 k ∧ (k = 0)) (fun i => 3 - (intOf i).toNat)
  case atStart => exact ⟨0, rfl, rfl⟩
  case round =>
    obtain ⟨k, rfl, hk⟩ := hrel
    subst hk
    go_wp2
    go_ret
    exact ⟨rfl, rfl⟩

set_option maxHeartbeats 800000 in
theorem field_strip (w : World) (s ga f0 f1 f2 : Nat) (a0 : w.cell? ⟨s, 0, none⟩ = some (.slice (some ⟨ga, 0, none⟩) 3 3))
    (a1 : w.cell? ⟨ga, 0, none⟩ = some (.pointer (some ⟨f0, 0, none⟩))) (a2 : w.cell? ⟨ga, 1, none⟩ = some (.pointer (some ⟨f1, 0, none⟩))) (a3 : w.cell? ⟨ga, 2, none⟩ = some (.pointer (some ⟨f2, 0, none⟩)))
    (a4 : w.cell? ⟨f0, 0, none⟩ = some (.string ⟨#[112, 97, 116, 104, 69, 110, 99, 111, 100, 105, 110, 103]⟩)) (a5 : w.cell? ⟨f1, 0, none⟩ = some (.string ⟨#[115, 116, 114, 105, 112, 80, 114, 101, 102, 105, 120]⟩)) (a6 : w.cell? ⟨f2, 0, none⟩ = some (.string ⟨#[114, 101, 103, 105, 115, 116, 114, 121]⟩)) :
    Calls Tryf.prog 11 #[.pointer (some ⟨s, 0, none⟩), .string ⟨#[115, 116, 114, 105, 112, 80, 114, 101, 102, 105, 120]⟩] w fun e w' => e = .returned (.pointer (some ⟨f1, 0, none⟩)) ∧ w' = w := by
  go_enter Tryf.func11, Tryf.ntmps11
  go_wp2
  go_loop [12] (fun i => ∃ k : Nat, i = .int .i64 k ∧ (k = 0 ∨ k = 1)) (fun i => 3 - (intOf i).toNat)
  case atStart => exact ⟨0, rfl, .inl rfl⟩
  case round =>
    obtain ⟨k, rfl, hk⟩ := hrel
    rcases hk with rfl | rfl
    · go_wp2
      exact ⟨⟨1, rfl, .inr rfl⟩, by simp [intOf]⟩
    · go_wp2
      go_ret
      exact ⟨rfl, rfl⟩

set_option maxHeartbeats 800000 in
theorem field_reg (w : World) (s ga f0 f1 f2 : Nat) (a0 : w.cell? ⟨s, 0, none⟩ = some (.slice (some ⟨ga, 0, none⟩) 3 3))
    (a1 : w.cell? ⟨ga, 0, none⟩ = some (.pointer (some ⟨f0, 0, none⟩))) (a2 : w.cell? ⟨ga, 1, none⟩ = some (.pointer (some ⟨f1, 0, none⟩))) (a3 : w.cell? ⟨ga, 2, none⟩ = some (.pointer (some ⟨f2, 0, none⟩)))
    (a4 : w.cell? ⟨f0, 0, none⟩ = some (.string ⟨#[112, 97, 116, 104, 69, 110, 99, 111, 100, 105, 110, 103]⟩)) (a5 : w.cell? ⟨f1, 0, none⟩ = some (.string ⟨#[115, 116, 114, 105, 112, 80, 114, 101, 102, 105, 120]⟩)) (a6 : w.cell? ⟨f2, 0, none⟩ = some (.string ⟨#[114, 101, 103, 105, 115, 116, 114, 121]⟩)) :
    Calls Tryf.prog 11 #[.pointer (some ⟨s, 0, none⟩), .string ⟨#[114, 101, 103, 105, 115, 116, 114, 121]⟩] w fun e w' => e = .returned (.pointer (some ⟨f2, 0, none⟩)) ∧ w' = w := by
  go_enter Tryf.func11, Tryf.ntmps11
  go_wp2
  go_loop [12] (fun i => ∃ k : Nat, i = .int .i64 k ∧ (k = 0 ∨ k = 1 ∨ k = 2)) (fun i => 3 - (intOf i).toNat)
  case atStart => exact ⟨0, rfl, .inl rfl⟩
  case round =>
    obtain ⟨k, rfl, hk⟩ := hrel
    rcases hk with rfl | rfl | rfl
    · go_wp2
      exact ⟨⟨1, rfl, .inr (.inl rfl)⟩, by simp [intOf]⟩
    · go_wp2
      exact ⟨⟨2, rfl, .inr (.inr rfl)⟩, by simp [intOf]⟩
    · go_wp2
      go_ret
      exact ⟨rfl, rfl⟩

/-- ZZnewEntry hands back the entry; one new block. -/
theorem newEntry_any (reg : Option Addr) (enc : Int) (sp : Bool) (pft : ByteArray) (w : World) :
    Calls Tryf.prog 8 #[.pointer reg, .int .i64 enc, .bool sp, .string pft] w fun e w' => e = .returned (.agg #[.pointer reg, .int .i64 enc, .bool sp, .string pft]) ∧ ∃ o, w' = w.alloc o := by
  go_enter Tryf.func8, Tryf.ntmps8
  go_wp2
  exact bodyPost_ret (v := .agg #[.pointer reg, .int .i64 enc, .bool sp, .string pft]) (by simp [results, Tryf.results8, go_sem]) rfl ⟨rfl, _, rfl⟩
end Go.Proofs.Qxb6613941aFmt
