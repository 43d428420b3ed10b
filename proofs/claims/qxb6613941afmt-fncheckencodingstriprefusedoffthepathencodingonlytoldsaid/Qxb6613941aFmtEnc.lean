/-
  Seat b6613941aF. THE WALKS of checkEncoding (10), a theorem a way.
-/
import Derived.Test.Qxb6613941aFmtCheck
namespace Go.Proofs.Qxb6613941aFmt
open Go.RowKit Go.Extern.Stop Go.Stop Go.Extern
set_option linter.unusedVariables false

/-- Refused, or not. -/
structure Res (r : Bool) (e : Ending) : Prop where
  get : (r = true ∧ ∃ v, e = .returned (.iface 49 v)) ∨ (r = false ∧ e = .returned .nilIface)

theorem ce_zero (s : Value) (reg : Option Addr) (sp : Bool) (pft path : ByteArray) (w : World) :
    Calls Tryf.prog 10 #[s, .agg #[.pointer reg, .int .i64 0, .bool sp, .string pft], .string path] w fun e w' => Res false e ∧ Below w.heap.size w w' := by
  go_enter Tryf.func10, Tryf.ntmps10
  go_wp2
  go_ret
  exact ⟨⟨.inr ⟨rfl, rfl⟩⟩, (Below.refl _ _).alloc (Nat.le_refl _) _⟩

set_option maxHeartbeats 1600000 in
theorem ce_strip (F : Interp) (s : Nat) (reg : Option Addr) (enc : Int) (pft path : ByteArray) (w : World) (hF : F.answers w.tape) (h : Ent w s) (he : enc ≠ 0) :
    Calls Tryf.prog 10 #[.pointer (some ⟨s, 0, none⟩), .agg #[.pointer reg, .int .i64 enc, .bool true, .string pft], .string path] w fun e w' => Res true e ∧ Below w.heap.size w w' := by
  obtain ⟨ga, f0, f1, f2, z0, z1, z2, z3, z4, a0, a1, a2, a3, a4, a5, a6, a7, a8, ⟨nm, l, c, a9, a10, a11⟩, ⟨nm', l', c', a12, a13, a14⟩⟩ := h.get
  have e0 : (enc == 0) = false := by rw [beq_eq_false_iff_ne]; exact he
  go_enter Tryf.func10, Tryf.ntmps10
  go_wp2_with fail
  refine (field_path _ s ga f0 f1 f2 (by go_simp) (by go_simp) (by go_simp) (by go_simp) (by go_simp) (by go_simp) (by go_simp)).mono ?_; rintro e w1 ⟨rfl, rfl⟩
  go_wp2_with fail
  refine (field_strip _ s ga f0 f1 f2 (by go_simp) (by go_simp) (by go_simp) (by go_simp) (by go_simp) (by go_simp) (by go_simp)).mono ?_; rintro e w1 ⟨rfl, rfl⟩
  go_wp2_with fail
  refine (errorfA F (w.heap.size + 1) nm path l c _ (by exact hF) (by simp) (by go_simp) (by go_simp) (by go_simp)).mono ?_; rintro e w1 ⟨v, rfl, hb⟩
  go_wp2_with fail
  go_ret
  exact ⟨⟨.inl ⟨rfl, v, rfl⟩⟩, (((Below.refl _ _).alloc (Nat.le_refl _) _).alloc (by simp) _).trans (hb.mono (by simp; omega))⟩

set_option maxHeartbeats 1600000 in
theorem ce_plain (s : Nat) (reg : Option Addr) (enc : Int) (pft path : ByteArray) (w : World) (h : Ent w s) (he : enc ≠ 0) (he2 : enc ≠ 2) :
    Calls Tryf.prog 10 #[.pointer (some ⟨s, 0, none⟩), .agg #[.pointer reg, .int .i64 enc, .bool false, .string pft], .string path] w fun e w' => Res false e ∧ Below w.heap.size w w' := by
  obtain ⟨ga, f0, f1, f2, z0, z1, z2, z3, z4, a0, a1, a2, a3, a4, a5, a6, a7, a8, ⟨nm, l, c, a9, a10, a11⟩, ⟨nm', l', c', a12, a13, a14⟩⟩ := h.get
  have e0 : (enc == 0) = false := by rw [beq_eq_false_iff_ne]; exact he
  have e2 : (enc == 2) = false := by rw [beq_eq_false_iff_ne]; exact he2
  go_enter Tryf.func10, Tryf.ntmps10
  go_wp2_with fail
  refine (field_path _ s ga f0 f1 f2 (by go_simp) (by go_simp) (by go_simp) (by go_simp) (by go_simp) (by go_simp) (by go_simp)).mono ?_; rintro e w1 ⟨rfl, rfl⟩
  go_wp2_with fail
  refine (field_reg _ s ga f0 f1 f2 (by go_simp) (by go_simp) (by go_simp) (by go_simp) (by go_simp) (by go_simp) (by go_simp)).mono ?_; rintro e w1 ⟨rfl, rfl⟩
  go_wp2_with fail
  go_ret
  exact ⟨⟨.inr ⟨rfl, rfl⟩⟩, (Below.refl _ _).alloc (Nat.le_refl _) _⟩

set_option maxHeartbeats 1600000 in
theorem ce_tag_none (s : Nat) (pft path : ByteArray) (w : World) (h : Ent w s) :
    Calls Tryf.prog 10 #[.pointer (some ⟨s, 0, none⟩), .agg #[.pointer none, .int .i64 2, .bool false, .string pft], .string path] w fun e w' => Res false e ∧ Below w.heap.size w w' := by
  obtain ⟨ga, f0, f1, f2, z0, z1, z2, z3, z4, a0, a1, a2, a3, a4, a5, a6, a7, a8, ⟨nm, l, c, a9, a10, a11⟩, ⟨nm', l', c', a12, a13, a14⟩⟩ := h.get
  go_enter Tryf.func10, Tryf.ntmps10
  go_wp2_with fail
  refine (field_path _ s ga f0 f1 f2 (by go_simp) (by go_simp) (by go_simp) (by go_simp) (by go_simp) (by go_simp) (by go_simp)).mono ?_; rintro e w1 ⟨rfl, rfl⟩
  go_wp2_with fail
  refine (field_reg _ s ga f0 f1 f2 (by go_simp) (by go_simp) (by go_simp) (by go_simp) (by go_simp) (by go_simp) (by go_simp)).mono ?_; rintro e w1 ⟨rfl, rfl⟩
  go_wp2_with fail
  go_ret
  exact ⟨⟨.inr ⟨rfl, rfl⟩⟩, (Below.refl _ _).alloc (Nat.le_refl _) _⟩

set_option maxHeartbeats 1600000 in
theorem ce_tag_repo (s rb : Nat) (repo pft path : ByteArray) (w : World) (h : Ent w s) (hrb : rb < w.heap.size) (hr : w.cell? ⟨rb, 1, none⟩ = some (.string repo)) (hne : (repo.toList == []) = false) :
    Calls Tryf.prog 10 #[.pointer (some ⟨s, 0, none⟩), .agg #[.pointer (some ⟨rb, 0, none⟩), .int .i64 2, .bool false, .string pft], .string path] w fun e w' => Res false e ∧ Below w.heap.size w w' := by
  obtain ⟨ga, f0, f1, f2, z0, z1, z2, z3, z4, a0, a1, a2, a3, a4, a5, a6, a7, a8, ⟨nm, l, c, a9, a10, a11⟩, ⟨nm', l', c', a12, a13, a14⟩⟩ := h.get
  go_enter Tryf.func10, Tryf.ntmps10
  go_wp2_with fail
  refine (field_path _ s ga f0 f1 f2 (by go_simp) (by go_simp) (by go_simp) (by go_simp) (by go_simp) (by go_simp) (by go_simp)).mono ?_; rintro e w1 ⟨rfl, rfl⟩
  go_wp2_with fail
  refine (field_reg _ s ga f0 f1 f2 (by go_simp) (by go_simp) (by go_simp) (by go_simp) (by go_simp) (by go_simp) (by go_simp)).mono ?_; rintro e w1 ⟨rfl, rfl⟩
  go_wp2_with fail
  go_ret
  exact ⟨⟨.inr ⟨rfl, rfl⟩⟩, (Below.refl _ _).alloc (Nat.le_refl _) _⟩

set_option maxHeartbeats 1600000 in
theorem ce_tag_empty (F : Interp) (s rb : Nat) (repo pft path : ByteArray) (w : World) (hF : F.answers w.tape) (h : Ent w s) (hrb : rb < w.heap.size) (hr : w.cell? ⟨rb, 1, none⟩ = some (.string repo)) (hne : (repo.toList == []) = true) :
    Calls Tryf.prog 10 #[.pointer (some ⟨s, 0, none⟩), .agg #[.pointer (some ⟨rb, 0, none⟩), .int .i64 2, .bool false, .string pft], .string path] w fun e w' => Res true e ∧ Below w.heap.size w w' := by
  obtain ⟨ga, f0, f1, f2, z0, z1, z2, z3, z4, a0, a1, a2, a3, a4, a5, a6, a7, a8, ⟨nm, l, c, a9, a10, a11⟩, ⟨nm', l', c', a12, a13, a14⟩⟩ := h.get
  go_enter Tryf.func10, Tryf.ntmps10
  go_wp2_with fail
  refine (field_path _ s ga f0 f1 f2 (by go_simp) (by go_simp) (by go_simp) (by go_simp) (by go_simp) (by go_simp) (by go_simp)).mono ?_; rintro e w1 ⟨rfl, rfl⟩
  go_wp2_with fail
  refine (field_reg _ s ga f0 f1 f2 (by go_simp) (by go_simp) (by go_simp) (by go_simp) (by go_simp) (by go_simp) (by go_simp)).mono ?_; rintro e w1 ⟨rfl, rfl⟩
  go_wp2_with fail
  go_region_with (go_at_call 12; refine (errorfB F (w.heap.size + 1) nm' path l' c' _ (by exact hF) (by simp) (by go_simp) (by go_simp) (by go_simp) (by go_simp)).mono ?_; rintro e w1 ⟨v, rfl, hb⟩)
  all_goals
    go_wp2_with fail
    go_ret
    exact ⟨⟨.inl ⟨rfl, v, rfl⟩⟩, ((((Below.refl _ _).alloc (Nat.le_refl _) _).alloc (by simp) _).drew).trans (hb.mono (by simp; omega))⟩
end Go.Proofs.Qxb6613941aFmt
