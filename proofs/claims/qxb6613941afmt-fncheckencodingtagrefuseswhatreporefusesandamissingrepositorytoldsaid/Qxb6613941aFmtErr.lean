/-
  Seat b6613941aF. THE WALKS of (Pos).String (15) and fmt.Errorf (12) at the two formats, FOR EVERY F.
-/
import Derived.Test.Qxb6613941aFmtFacts
import Derived.WalkKit
import Derived.WalkSpells
import Derived.Below
import Derived.WalkSmall
import Derived.Deep.RegionWith
namespace Go.Proofs.Qxb6613941aFmt
open Go.RowKit Go.Extern.Stop Go.Stop Go.Extern
attribute [local go_sem] call13 call16 guardF fmtS fmtSr fmtA fmtAr fmtB fmtBr act38w isString38 str38 act9w op9w op9 op3 actNil opNil ptr49 elem49

theorem hide {p : Prop} (h : p) : Hid p := h

set_option maxHeartbeats 800000 in
/-- (Pos).String: some text; two new blocks. -/
theorem string15 (F : Interp) (nm : ByteArray) (l c : Int) (w : World) (hF : F.answers w.tape) :
    Calls Tryf.prog 15 #[.agg #[.string nm, .int .i64 l, .int .i64 c]] w fun e w' => ∃ t o1 o2, e = .returned (.string t) ∧ w' = ((w.alloc o1).alloc o2).drew := by
  have hF' := answers_open hF
  go_enter Tryf.func15, Tryf.ntmps15
  go_wp2
  go_ret
  exact ⟨_, _, _, rfl, rfl⟩

set_option maxHeartbeats 1600000 in
/-- fmt.Errorf at the first format: an error; new blocks alone. -/
theorem errorfA (F : Interp) (g : Nat) (nm path : ByteArray) (l c : Int) (w : World) (hF : F.answers w.tape) (hg : g < w.heap.size)
    (c0 : w.cell? ⟨g, 0, none⟩ = some (.iface 38 (.agg #[.string nm, .int .i64 l, .int .i64 c]))) (c1 : w.cell? ⟨g, 1, none⟩ = some (.iface 9 (.string path))) (c2 : w.cell? ⟨g, 2, none⟩ = some .nilIface) :
    Calls Tryf.prog 12 #[.string bytesA, .slice (some ⟨g, 0, none⟩) 3 3] w fun e w' => ∃ v, e = .returned (.iface 49 v) ∧ Below w.heap.size w w' := by
  have hF' := answers_open hF
  have h37 : bytesA.data.contains 37 = true := by decide +kernel
  go_enter Tryf.func12, Tryf.ntmps12
  go_wp2
  apply rows_call nextTurns
  case hr =>
    go_simp
    exact ⟨⟨rfl, rfl, rfl⟩, rfl⟩
  case hi => exact invokeString38 _ _
  case hc =>
    refine (string15 F nm l c _ (by exact hF)).mono ?_
    rintro e w3 ⟨t, o1, o2, rfl, rfl⟩
    apply rows_value nextReturned
    case hr =>
      go_simp
      exact ⟨rfl, rfl⟩
    case h =>
      go_wp2
      go_ret
      exact ⟨_, rfl, ((((Below.refl _ _).alloc (Nat.le_refl _) _).alloc (by simp) _).alloc (by simp; omega) _).drew.drew⟩
set_option maxHeartbeats 1600000 in
/-- fmt.Errorf at the second format: an error; new blocks alone. -/
theorem errorfB (F : Interp) (g : Nat) (nm path : ByteArray) (l c : Int) (w : World) (hF : F.answers w.tape) (hg : g < w.heap.size)
    (c0 : w.cell? ⟨g, 0, none⟩ = some (.iface 38 (.agg #[.string nm, .int .i64 l, .int .i64 c]))) (c1 : w.cell? ⟨g, 1, none⟩ = some (.iface 9 (.string path))) (c2 : w.cell? ⟨g, 2, none⟩ = some .nilIface) (c3 : w.cell? ⟨g, 3, none⟩ = some .nilIface) :
    Calls Tryf.prog 12 #[.string bytesB, .slice (some ⟨g, 0, none⟩) 4 4] w fun e w' => ∃ v, e = .returned (.iface 49 v) ∧ Below w.heap.size w w' := by
  have hF' := answers_open hF
  have h37 : bytesB.data.contains 37 = true := by decide +kernel
  go_enter Tryf.func12, Tryf.ntmps12
  go_wp2
  apply rows_call nextTurns
  case hr =>
    go_simp
    exact ⟨⟨rfl, rfl, rfl⟩, rfl⟩
  case hi => exact invokeString38 _ _
  case hc =>
    refine (string15 F nm l c _ (by exact hF)).mono ?_
    rintro e w3 ⟨t, o1, o2, rfl, rfl⟩
    apply rows_value nextReturned
    case hr =>
      go_simp
      exact ⟨rfl, rfl⟩
    case h =>
      go_wp2
      go_ret
      exact ⟨_, rfl, ((((Below.refl _ _).alloc (Nat.le_refl _) _).alloc (by simp) _).alloc (by simp; omega) _).drew.drew⟩
end Go.Proofs.Qxb6613941aFmt
