/-
  Seat b6613941aF. checkEncoding in one contract over all ways; ZZcheckEncoding (7).
-/
import Derived.Test.Qxb6613941aFmtEnc
namespace Go.Proofs.Qxb6613941aFmt
open Go.RowKit Go.Extern.Stop Go.Stop Go.Extern
set_option linter.unusedVariables false

/-- The registry that the entry leads to: none; or its repository. -/
structure Reg (w : World) (a : Option Addr) (has : Bool) (repo : ByteArray) : Prop where
  get : (has = false ∧ a = none) ∨ (has = true ∧ ∃ rb, a = some ⟨rb, 0, none⟩ ∧ rb < w.heap.size ∧ w.cell? ⟨rb, 1, none⟩ = some (.string repo))

theorem Reg.below {w w' : World} {a : Option Addr} {has : Bool} {repo : ByteArray} (h : Reg w a has repo) (b : Below w.heap.size w w') : Reg w' a has repo := by
  rcases h.get with ⟨h1, h2⟩ | ⟨h1, rb, h2, h3, h4⟩
  · exact ⟨.inl ⟨h1, h2⟩⟩
  · exact ⟨.inr ⟨h1, rb, h2, Nat.lt_of_lt_of_le h3 b.size, (b.cell (p := ⟨rb, 1, none⟩) h3).trans h4⟩⟩

/-- Is the entry refused? -/
def refused (enc : Int) (sp has : Bool) (repo : ByteArray) : Bool := !(enc == 0) && (sp || ((enc == 2) && has && (repo.toList == [])))

theorem ce_all (F : Interp) (s : Nat) (a : Option Addr) (enc : Int) (sp has : Bool) (repo pft path : ByteArray) (w : World) (hF : F.answers w.tape) (h : Ent w s) (hr : Reg w a has repo) :
    Calls Tryf.prog 10 #[.pointer (some ⟨s, 0, none⟩), .agg #[.pointer a, .int .i64 enc, .bool sp, .string pft], .string path] w fun e w' => Res (refused enc sp has repo) e ∧ Below w.heap.size w w' := by
  by_cases e0 : enc = 0
  · subst e0
    exact ce_zero _ a sp pft path w
  · have f0 : (enc == 0) = false := by rw [beq_eq_false_iff_ne]; exact e0
    cases sp with
    | true =>
      have : refused enc true has repo = true := by simp [refused, f0]
      rw [this]
      exact ce_strip F s a enc pft path w hF h e0
    | false =>
      by_cases e2 : enc = 2
      · subst e2
        rcases hr.get with ⟨rfl, rfl⟩ | ⟨rfl, rb, rfl, hrb, hc⟩
        · exact ce_tag_none s pft path w h
        · cases hb : (repo.toList == []) with
          | false =>
            have : refused 2 false true repo = false := by simp only [refused, hb]; rfl
            rw [this]
            exact ce_tag_repo s rb repo pft path w h hrb hc hb
          | true =>
            have : refused 2 false true repo = true := by simp only [refused, hb]; rfl
            rw [this]
            exact ce_tag_empty F s rb repo pft path w hF h hrb hc hb
      · have f2 : (enc == 2) = false := by rw [beq_eq_false_iff_ne]; exact e2
        have : refused enc false has repo = false := by simp [refused, f2]
        rw [this]
        exact ce_plain s a enc pft path w h e0 e2

set_option maxHeartbeats 800000 in
theorem zz_all (F : Interp) (s : Nat) (a : Option Addr) (enc : Int) (sp has : Bool) (repo pft path : ByteArray) (w : World) (hF : F.answers w.tape) (h : Ent w s) (hr : Reg w a has repo) :
    Calls Tryf.prog 7 #[.pointer (some ⟨s, 0, none⟩), .agg #[.pointer a, .int .i64 enc, .bool sp, .string pft], .string path] w fun e w' => Res (refused enc sp has repo) e ∧ Below w.heap.size w w' := by
  have b1 : ∀ o, Below w.heap.size w (w.alloc o) := fun o => (Below.refl _ _).alloc (Nat.le_refl _) o
  have H : ∀ o, Hid (Calls Tryf.prog 10 #[.pointer (some ⟨s, 0, none⟩), .agg #[.pointer a, .int .i64 enc, .bool sp, .string pft], .string path] (w.alloc o) fun e w' => Res (refused enc sp has repo) e ∧ Below w.heap.size w w') := by
    intro o
    refine (ce_all F s a enc sp has repo pft path (w.alloc o) (by exact hF) (h.below (b1 o)) (hr.below (b1 o))).mono ?_
    rintro e w' ⟨h1, h2⟩
    exact ⟨h1, (b1 o).trans (h2.mono (by simp))⟩
  go_enter Tryf.func7, Tryf.ntmps7
  go_wp2_with fail
  refine ((H _).out).mono ?_; rintro e w1 ⟨⟨h1⟩, h2⟩
  rcases h1 with ⟨h3, v, rfl⟩ | ⟨h3, rfl⟩
  · have H3 := hide h3
    clear h3
    go_wp2_with fail
    go_ret
    exact ⟨⟨.inl ⟨H3.out, v, rfl⟩⟩, h2⟩
  · have H3 := hide h3
    clear h3
    go_wp2_with fail
    go_ret
    exact ⟨⟨.inr ⟨H3.out, rfl⟩⟩, h2⟩
end Go.Proofs.Qxb6613941aFmt
