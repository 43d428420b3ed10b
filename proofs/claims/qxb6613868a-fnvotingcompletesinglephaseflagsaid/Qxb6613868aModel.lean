/-
  Seat b6613868a. THE WALKS of listsKept (19) and votingCompleteAsModel (10), a theorem a way.
-/
import Derived.Test.Qxb6613868aRead
namespace Go.Proofs.Qxb6613868a
open Go.ChangeShapes Go.WideShapes Go.ChangeAt Go.RowKit

/-- What the transaction at block b holds in the fields that are read. -/
structure Tx (w : World) (b : Nat) (st oc : Int) (sp : Bool) (lg : Int) (pr : Bool) (p1 p2 p2v told : Value) : Prop where
  c0 : w.cell? ⟨b, 0, none⟩ = some (.int .u8 st)
  c2 : w.cell? ⟨b, 2, none⟩ = some (.int .u8 oc)
  c5 : w.cell? ⟨b, 5, none⟩ = some (.bool sp)
  c6 : w.cell? ⟨b, 6, none⟩ = some (.int .u8 lg)
  c7 : w.cell? ⟨b, 7, none⟩ = some (.bool pr)
  c14 : w.cell? ⟨b, 14, none⟩ = some p2v
  c15 : w.cell? ⟨b, 15, none⟩ = some p1
  c16 : w.cell? ⟨b, 16, none⟩ = some p2
  c18 : w.cell? ⟨b, 18, none⟩ = some told
  fz : ∀ o, w.frozen? ⟨b, o, none⟩ = false

theorem Tx.mono {w w' : World} {b : Nat} {st oc : Int} {sp : Bool} {lg : Int} {pr : Bool} {p1 p2 p2v told : Value} (h : Tx w b st oc sp lg pr p1 p2 p2v told) (hb : w'.heap[b]? = w.heap[b]?) : Tx w' b st oc sp lg pr p1 p2 p2v told :=
  have e : ∀ o : Nat, w'.cell? ⟨b, o, none⟩ = w.cell? ⟨b, o, none⟩ := fun _ => World.cell?_of_block (w := w) hb
  have f : ∀ o, w'.frozen? ⟨b, o, none⟩ = w.frozen? ⟨b, o, none⟩ := fun _ => World.frozen?_of_block (w := w) hb
  ⟨(e _).trans h.c0, (e _).trans h.c2, (e _).trans h.c5, (e _).trans h.c6, (e _).trans h.c7, (e _).trans h.c14, (e _).trans h.c15, (e _).trans h.c16, (e _).trans h.c18, fun o => (f o).trans (h.fz o)⟩

theorem Arr.drewN {w : World} {lo hi : Nat} {a : Option Addr} {len : Nat} {zs : List Int} (h : Arr w lo hi a len zs) (n : Nat) : Arr (w.drewN n) lo hi a len zs := h.mono (Nat.le_refl _) (Nat.le_refl _) (fun _ _ _ => rfl)
theorem Acts.drewN {w : World} {lo hi : Nat} {a : Option Addr} {len : Nat} {kind : Int} {zs : List Int} (h : Acts w lo hi a len kind zs) (n : Nat) : Acts (w.drewN n) lo hi a len kind zs := h.mono (Nat.le_refl _) (Nat.le_refl _) (fun _ _ _ => rfl)
theorem Tx.drewN {w : World} {b : Nat} {st oc : Int} {sp : Bool} {lg : Int} {pr : Bool} {p1 p2 p2v told : Value} (h : Tx w b st oc sp lg pr p1 p2 p2v told) (n : Nat) : Tx (w.drewN n) b st oc sp lg pr p1 p2 p2v told := h.mono rfl

set_option maxHeartbeats 400000 in
theorem listsKept_any (b : Nat) (st : Int) (sp : Bool) (a1 av ap aw a2 at' : Option Addr) (lp lv c1 cv cp cw c2 ct : Nat) (ps vs : List Int) (lo hi lo' hi' : Nat) (w : World)
    (t : Tx w b st 0 sp 0 false (.slice a1 lp c1) (.slice a2 0 c2) (.slice av lv cv) (.slice at' 0 ct))
    (h1 : Arr w lo hi a1 lp ps) (hv : Arr w lo hi av lv vs) (hp : Arr w lo' hi' ap lp ps) (hw : Arr w lo' hi' aw lv vs) (hlp : lp ≤ 65536) (hlv : lv ≤ 65536) :
    Calls Try.prog 19 #[.pointer (some ⟨b, 0, none⟩), .slice ap lp cp, .slice aw lv cw] w fun e w' => e = .returned (.bool true) ∧ ∃ n, w' = w.drewN n := by
  go_enter Try.func19, Try.ntmps19
  go_wp2_with fail
  refine (phaseOne_any b a1 lp c1 _ t.c15).mono ?_; rintro e w' ⟨rfl, rfl⟩
  go_wp2_with fail
  refine (sameEnl_any a1 ap lp c1 cp ps _ _ _ _ _ h1 hp hlp).mono ?_; rintro e w' ⟨rfl, n1, rfl⟩
  go_wp2_with fail
  refine (voters_any b av lv cv _ (t.drewN n1).c14).mono ?_; rintro e w' ⟨rfl, rfl⟩
  go_wp2_with fail
  refine (sameEnl_any av aw lv cv cw vs _ _ _ _ _ (hv.drewN n1) (hw.drewN n1) hlv).mono ?_; rintro e w' ⟨rfl, n2, rfl⟩
  have t2 := t.drewN (n1 + n2)
  go_wp2_with fail
  refine (phaseTwo_any b a2 0 c2 _ t2.c16).mono ?_; rintro e w' ⟨rfl, rfl⟩
  go_wp2_with fail
  refine (told_any b at' 0 ct _ t2.c18).mono ?_; rintro e w' ⟨rfl, rfl⟩
  go_wp2_with fail
  refine (outcome_any b 0 _ t2.c2).mono ?_; rintro e w' ⟨rfl, rfl⟩
  go_wp2_with fail
  refine (prepared_any b false _ t2.c7).mono ?_; rintro e w' ⟨rfl, rfl⟩
  go_wp2_with fail
  refine (logging_any b 0 _ t2.c6).mono ?_; rintro e w' ⟨rfl, rfl⟩
  go_wp2_with fail
  go_ret
  exact ⟨rfl, _, rfl⟩

set_option maxRecDepth 100000 in
set_option maxHeartbeats 800000 in
/-- One durable branch, the flag set. -/
theorem model_single (b : Nat) (sp : Bool) (a1 av ap aw a2 at' ar : Option Addr) (lv c1 cv cp cw c2 ct cr : Nat) (ps vs : List Int) (lo hi lo' hi' lo2 hi2 : Nat) (w : World)
    (t : Tx w b 4 0 sp 0 false (.slice a1 1 c1) (.slice a2 0 c2) (.slice av lv cv) (.slice at' 0 ct))
    (h1 : Arr w lo hi a1 1 ps) (hv : Arr w lo hi av lv vs) (hp : Arr w lo' hi' ap 1 ps) (hw : Arr w lo' hi' aw lv vs) (hr : Acts w lo2 hi2 ar 1 4 ps) (hlv : lv ≤ 65536) :
    Calls Try.prog 10 #[.pointer (some ⟨b, 0, none⟩), .slice ar 1 cr, .slice ap 1 cp, .slice aw lv cw, .bool true] w fun e w' => e = .returned (.bool true) ∧ ∃ n, w' = w.drewN n := by
  obtain ⟨br, rfl, k1, k2, k3⟩ := hr.at_.resolve_left (by omega)
  obtain ⟨d1, d2, d3⟩ := k3 0 (by omega)
  obtain ⟨bp, offp, rfl, j1, j2, j3⟩ := hp.at_.resolve_left (by omega)
  have d4 := j3 0 (by omega)
  clear k3 j3
  generalize ps[0]?.getD 0 = z at d2 d4
  simp only [Nat.zero_mul, Nat.zero_add, Nat.add_zero] at d1 d2 d3 d4
  go_enter Try.func10, Try.ntmps10
  go_wp2_with fail
  go_quiet (first
    | (go_at_call 18; exact Calls.quiet_of_same (state_any b 4 _ (t.drewN _).c0))
    | (go_at_call 19; exact Calls.quiet_of (listsKept_any b 4 sp a1 av _ aw a2 at' 1 lv c1 cv cp cw c2 ct ps vs lo hi lo' hi' _ (t.drewN _) (h1.drewN _) (hv.drewN _) (hp.drewN _) (hw.drewN _) (by omega) hlv)))
  go_wp2
  go_ret
  exact ⟨rfl, _, rfl⟩

set_option maxRecDepth 100000 in
set_option maxHeartbeats 800000 in
/-- Durable branches, told to begin Phase One. -/
theorem model_one (b : Nat) (sp single : Bool) (a1 av ap aw a2 at' ar : Option Addr) (lp lv c1 cv cp cw c2 ct cr : Nat) (ps vs : List Int) (lo hi lo' hi' lo2 hi2 : Nat) (w : World)
    (t : Tx w b 3 0 sp 0 false (.slice a1 lp c1) (.slice a2 0 c2) (.slice av lv cv) (.slice at' 0 ct))
    (h1 : Arr w lo hi a1 lp ps) (hv : Arr w lo hi av lv vs) (hp : Arr w lo' hi' ap lp ps) (hw : Arr w lo' hi' aw lv vs) (hr : Acts w lo2 hi2 ar lp 3 ps) (hlp : lp ≤ 65536) (hlv : lv ≤ 65536) (hpos : 1 ≤ lp)
    (hs : (((lp : Int) == 1) && single) = false) :
    Calls Try.prog 10 #[.pointer (some ⟨b, 0, none⟩), .slice ar lp cr, .slice ap lp cp, .slice aw lv cw, .bool single] w fun e w' => e = .returned (.bool true) ∧ ∃ n, w' = w.drewN n := by
  have h0 : (0 : Int) < (lp : Int) := by omega
  by_cases e1 : lp = 1
  · subst e1
    simp only [show (((1 : Nat) : Int) == 1) = true from rfl, Bool.true_and] at hs
    subst hs
    go_enter Try.func10, Try.ntmps10
    go_wp2_with fail
    refine (toldEach_any 3 ar ap 1 cr cp ps _ _ _ _ _ hr hp hlp).mono ?_; rintro e w' ⟨rfl, n1, rfl⟩
    go_wp2_with fail
    refine (state_any b 3 _ (t.drewN n1).c0).mono ?_; rintro e w' ⟨rfl, rfl⟩
    go_wp2_with fail
    refine (listsKept_any b 3 sp a1 av ap aw a2 at' 1 lv c1 cv cp cw c2 ct ps vs lo hi lo' hi' _ (t.drewN _) (h1.drewN _) (hv.drewN _) (hp.drewN _) (hw.drewN _) hlp hlv).mono ?_; rintro e w' ⟨rfl, n2, rfl⟩
    go_wp2_with fail
    go_ret
    exact ⟨rfl, _, rfl⟩
  · have e2 : ((lp : Int) == 1) = false := by rw [beq_eq_false_iff_ne]; omega
    clear hs
    go_enter Try.func10, Try.ntmps10
    go_wp2_with fail
    refine (toldEach_any 3 ar ap lp cr cp ps _ _ _ _ _ hr hp hlp).mono ?_; rintro e w' ⟨rfl, n1, rfl⟩
    go_wp2_with fail
    refine (state_any b 3 _ (t.drewN n1).c0).mono ?_; rintro e w' ⟨rfl, rfl⟩
    go_wp2_with fail
    refine (listsKept_any b 3 sp a1 av ap aw a2 at' lp lv c1 cv cp cw c2 ct ps vs lo hi lo' hi' _ (t.drewN _) (h1.drewN _) (hv.drewN _) (hp.drewN _) (hw.drewN _) hlp hlv).mono ?_; rintro e w' ⟨rfl, n2, rfl⟩
    go_wp2_with fail
    go_ret
    exact ⟨rfl, _, rfl⟩
end Go.Proofs.Qxb6613868a
