/-
  Seat b6613868a. THE WALKS of the writers: endIfAcknowledged (32), tellPrepared (34), tellEvery (31), commit (35), logOrTell (33), phaseOneComplete (29), votingComplete (17).
-/
import Derived.Test.Qxb6613868aModel
import Derived.Laws.AppendOwnNone
import Derived.Deep.RegionWith
import Derived.Deep.RegionLaw
import Derived.Deep.RegionLawGrows
namespace Go.Proofs.Qxb6613868a
open Go.ChangeShapes Go.WideShapes Go.ChangeAt Go.RowKit

theorem endIf_some (b : Nat) (a : Option Addr) (l c : Nat) (w : World) (h : w.cell? ⟨b, 18, none⟩ = some (.slice a l c)) (hl : 1 ≤ l) :
    Calls Try.prog 32 #[.pointer (some ⟨b, 0, none⟩)] w fun e w' => e = .returned (.slice none 0 0) ∧ w' = w := by
  go_enter Try.func32, Try.ntmps32
  go_wp2
  go_ret
  exact ⟨rfl, rfl⟩

theorem endIf_none (b : Nat) (a : Option Addr) (c : Nat) (st oc : Int) (w : World) (h : w.cell? ⟨b, 18, none⟩ = some (.slice a 0 c)) (h0 : w.cell? ⟨b, 0, none⟩ = some (.int .u8 st)) (hst : st ≠ 8) (h2 : w.cell? ⟨b, 2, none⟩ = some (.int .u8 oc)) (hf : w.frozen? ⟨b, 0, none⟩ = false) :
    Calls Try.prog 32 #[.pointer (some ⟨b, 0, none⟩)] w fun e w' => e = .returned (.slice (some ⟨w.heap.size, 0, none⟩) 1 1) ∧ w' = (w.setCell ⟨b, 0, none⟩ (.int .u8 9)).alloc (.cells #[.int .u8 11, .int .u32 0, .int .u8 oc] 46) := by
  have e1 : (st == 8) = false := by rw [beq_eq_false_iff_ne]; exact hst
  go_enter Try.func32, Try.ntmps32
  go_wp2
  go_ret
  exact ⟨by simp, rfl⟩

theorem prep_any (b : Nat) (w : World) (h : w.cell? ⟨b, 7, none⟩ = some (.bool false)) (hf : w.frozen? ⟨b, 7, none⟩ = false) :
    Calls Try.prog 34 #[.pointer (some ⟨b, 0, none⟩)] w fun e w' => e = .returned (.slice (some ⟨w.heap.size, 0, none⟩) 1 1) ∧ w' = (w.setCell ⟨b, 7, none⟩ (.bool true)).alloc (.cells #[.int .u8 11, .int .u32 0, .int .u8 1] 46) := by
  go_enter Try.func34, Try.ntmps34
  go_wp2
  go_ret
  exact ⟨by simp, rfl⟩

theorem newTx_any (sp : Bool) (p1 p2v : Value) (a1 av : Option Addr) (l1 c1 lv cv : Nat) (w : World) (h1 : p1 = .slice a1 l1 c1) (hv : p2v = .slice av lv cv) :
    Calls Try.prog 6 #[.int .u8 2, .int .u8 0, .bool sp, p1, .slice none 0 0, p2v, .slice none 0 0] w fun e w' => e = .returned (.pointer (some ⟨w.heap.size, 0, none⟩)) ∧
      w.grownBy w' none ∧ w'.heap.size = w.heap.size + 1 ∧ Tx w' w.heap.size 2 0 sp 0 false p1 (.slice none 0 0) p2v (.slice none 0 0) := by
  subst h1; subst hv
  go_enter Try.func6, Try.ntmps6
  go_wp2
  go_ret
  refine ⟨rfl, World.grownBy_alloc _ _ _, by simp, ?_⟩
  constructor <;> simp

theorem Tx.told {w : World} {b : Nat} {st oc : Int} {sp : Bool} {lg : Int} {pr : Bool} {p1 p2 p2v told : Value} (h : Tx w b st oc sp lg pr p1 p2 p2v told) (x : Value) : Tx (w.setCell ⟨b, 18, none⟩ x) b st oc sp lg pr p1 p2 p2v x := by
  obtain ⟨c0, c2, c5, c6, c7, c14, c15, c16, c18, fz⟩ := h
  constructor <;> simp [go_sem, *]
theorem Tx.voters {w : World} {b : Nat} {st oc : Int} {sp : Bool} {lg : Int} {pr : Bool} {p1 p2 p2v told : Value} (h : Tx w b st oc sp lg pr p1 p2 p2v told) (x : Value) : Tx (w.setCell ⟨b, 14, none⟩ x) b st oc sp lg pr p1 p2 x told := by
  obtain ⟨c0, c2, c5, c6, c7, c14, c15, c16, c18, fz⟩ := h
  constructor <;> simp [go_sem, *]
theorem Tx.two {w : World} {b : Nat} {st oc : Int} {sp : Bool} {lg : Int} {pr : Bool} {p1 p2 p2v told : Value} (h : Tx w b st oc sp lg pr p1 p2 p2v told) (x : Value) : Tx (w.setCell ⟨b, 16, none⟩ x) b st oc sp lg pr p1 x p2v told := by
  obtain ⟨c0, c2, c5, c6, c7, c14, c15, c16, c18, fz⟩ := h
  constructor <;> simp [go_sem, *]
theorem Tx.prepd {w : World} {b : Nat} {st oc : Int} {sp : Bool} {lg : Int} {pr : Bool} {p1 p2 p2v told : Value} (h : Tx w b st oc sp lg pr p1 p2 p2v told) (x : Bool) : Tx (w.setCell ⟨b, 7, none⟩ (.bool x)) b st oc sp lg x p1 p2 p2v told := by
  obtain ⟨c0, c2, c5, c6, c7, c14, c15, c16, c18, fz⟩ := h
  constructor <;> simp [go_sem, *]
theorem Tx.state {w : World} {b : Nat} {st oc : Int} {sp : Bool} {lg : Int} {pr : Bool} {p1 p2 p2v told : Value} (h : Tx w b st oc sp lg pr p1 p2 p2v told) (x : Int) : Tx (w.setCell ⟨b, 0, none⟩ (.int .u8 x)) b x oc sp lg pr p1 p2 p2v told := by
  obtain ⟨c0, c2, c5, c6, c7, c14, c15, c16, c18, fz⟩ := h
  constructor <;> simp [go_sem, *]
theorem Tx.outc {w : World} {b : Nat} {st oc : Int} {sp : Bool} {lg : Int} {pr : Bool} {p1 p2 p2v told : Value} (h : Tx w b st oc sp lg pr p1 p2 p2v told) (x : Int) : Tx (w.setCell ⟨b, 2, none⟩ (.int .u8 x)) b st x sp lg pr p1 p2 p2v told := by
  obtain ⟨c0, c2, c5, c6, c7, c14, c15, c16, c18, fz⟩ := h
  constructor <;> simp [go_sem, *]
theorem Tx.drew {w : World} {b : Nat} {st oc : Int} {sp : Bool} {lg : Int} {pr : Bool} {p1 p2 p2v told : Value} (h : Tx w b st oc sp lg pr p1 p2 p2v told) : Tx w.drew b st oc sp lg pr p1 p2 p2v told := h.mono rfl
theorem Tx.alloc {w : World} {b : Nat} {st oc : Int} {sp : Bool} {lg : Int} {pr : Bool} {p1 p2 p2v told : Value} (h : Tx w b st oc sp lg pr p1 p2 p2v told) (hb : b < w.heap.size) (o : Obj) : Tx (w.alloc o) b st oc sp lg pr p1 p2 p2v told := h.mono (Below.heap_alloc _ _ _ hb)
theorem Tx.grown {w w' : World} {b : Nat} {st oc : Int} {sp : Bool} {lg : Int} {pr : Bool} {p1 p2 p2v told : Value} (h : Tx w b st oc sp lg pr p1 p2 p2v told) (hb : b < w.heap.size) {r : Option Nat} (hg : w.grownBy w' r) (hr : some b ≠ r) : Tx w' b st oc sp lg pr p1 p2 p2v told := h.mono (hg.block b hb hr)

theorem owns_form {w : World} {base lv : Nat} {v : Value} {vs : List Int} (h : w.ownsRow base 41 1 v lv (vs.map (Value.int .u32))) (hpos : 1 ≤ lv) (hl : vs.length = lv) :
    ∃ g ct, v = .slice (some ⟨g, 0, none⟩) lv ct ∧ Arr w base w.heap.size (some ⟨g, 0, none⟩) lv vs := by
  rcases h.2 with ⟨_, h'⟩ | ⟨g, cap, cur, rfl, hb, hg, _⟩
  · omega
  · refine ⟨g, cap, rfl, hl, .inr ⟨g, 0, rfl, (owns_lt h).1, (owns_lt h).2, fun i hi => ?_⟩⟩
    rw [Nat.zero_add, h.cellAt i (by omega), List.getElem?_map, List.getElem?_eq_getElem (by omega)]
    rfl

set_option maxRecDepth 100000 in
set_option maxHeartbeats 800000 in
theorem tellEvery_two (b g : Nat) (p1 : Value) (av : Option Addr) (lv cv : Nat) (vs : List Int) (lo hi : Nat) (told : Value) (w : World)
    (t : Tx w b 6 3 true 0 false p1 (.slice none 0 0) (.slice av lv cv) told) (hv : Arr w lo hi av lv vs) (hlv : lv ≤ 65536) (hpos : 1 ≤ lv) (hb : b < w.heap.size) (hgb : g ≠ b) (hhi : hi ≤ b)
    (g0 : w.cell? ⟨g, 0, none⟩ = some (.pointer (some ⟨b, 16, none⟩))) (g1 : w.cell? ⟨g, 1, none⟩ = some (.pointer (some ⟨b, 14, none⟩))) :
    Calls Try.prog 31 #[.pointer (some ⟨b, 0, none⟩), .int .u8 8, .slice (some ⟨g, 0, none⟩) 2 2] w fun e w' => ∃ ar cr at' ct, e = .returned (.slice ar lv cr) ∧ Acts w' w.heap.size w'.heap.size ar lv 8 vs ∧
      Arr w' w.heap.size w'.heap.size at' lv vs ∧ Tx w' b 6 3 true 0 false p1 (.slice none 0 0) (.slice none 0 0) (.slice at' lv ct) ∧ w.grownBy w' (some b) := by
  obtain ⟨i0, hi0, hz0, hz1, hz2⟩ := info_parts Try.info41
  obtain ⟨j0, hj0, jz0, jz1, jz2⟩ := info_parts Try.info46
  have t1 := t.told (.slice none 0 0)
  have gr1 : w.grownBy (w.setCell ⟨b, 18, none⟩ (.slice none 0 0)) (some b) := gb_set (World.grownBy.refl _ _) 18 _
  have k18 := t.c18
  have f18 := t.fz 18
  go_enter Try.func31, Try.ntmps31
  go_wp2
  go_loopw [14] (fun i wr => ∃ k : Nat, k ≤ 2 ∧ i = .int .i64 k ∧ w.grownBy wr (some b) ∧ (k < 2 → Tx wr b 6 3 true 0 false p1 (.slice none 0 0) (.slice av lv cv) (.slice none 0 0)) ∧
      (k = 2 → ∃ at' ct, Tx wr b 6 3 true 0 false p1 (.slice none 0 0) (.slice none 0 0) (.slice at' lv ct) ∧ Arr wr w.heap.size wr.heap.size at' lv vs)) (fun i _ => 2 - (intOf i).toNat)
  case atStart => exact ⟨0, by omega, rfl, gr1, fun _ => t1, fun h => by omega⟩
  case round =>
    obtain ⟨k, hk, rfl, hgr, ht1, ht2⟩ := hrel
    have hk' : k = 0 ∨ k = 1 ∨ k = 2 := by omega
    have g0' : wr.cell? ⟨g, 0, none⟩ = some (.pointer (some ⟨b, 16, none⟩)) := hgr.cell g0 (by simpa using hgb)
    have g1' : wr.cell? ⟨g, 1, none⟩ = some (.pointer (some ⟨b, 14, none⟩)) := hgr.cell g1 (by simpa using hgb)
    rcases hk' with rfl | rfl | rfl
    · have tt := ht1 (by omega)
      obtain ⟨c0, c2, c5, c6, c7, c14, c15, c16, c18, fz⟩ := tt
      have f16 := fz 16
      have f18 := fz 18
      have tt := ht1 (by omega)
      clear fz ht1 ht2
      go_wp2
      go_region
      go_wp2
      exact ⟨⟨1, by omega, rfl, gb_drew (gb_set (gb_set hgr _ _) _ _), fun _ => ((tt.told _).two _).drew, fun h => by omega⟩, by simp [intOf]⟩
    · have tt := ht1 (by omega)
      obtain ⟨c0, c2, c5, c6, c7, c14, c15, c16, c18, fz⟩ := tt
      have tt := ht1 (by omega)
      clear ht1 ht2
      obtain ⟨bv, offv, rfl, v1, v2, v3⟩ := hv.at_.resolve_left (by omega)
      have hvl := hv.length
      have hcv : ∀ j u, (vs.map (Value.int .u32))[j]? = some u → wr.cell? (Addr.add ⟨bv, offv, none⟩ j) = some u := by
        intro j u hj
        have hjl : j < lv := by
          have := (List.getElem?_eq_some_iff.1 hj).1
          simpa [hvl] using this
        have := hgr.cell (v3 j hjl) (by simp; omega)
        rw [List.getElem?_map, List.getElem?_eq_getElem (by omega)] at hj
        rw [List.getElem?_eq_getElem (by omega)] at this
        simp at hj
        subst hj
        rw [add_plain]
        exact this
      have H : Hid (∀ w1 v' w', w1 = wr.drew → w'.ownsRow w1.heap.size 41 1 v' (0 + lv) ([] ++ vs.map (Value.int .u32)) → w1.grownBy w' none → ∃ gg ct, v' = .slice (some ⟨gg, 0, none⟩) lv ct ∧ Arr w' w.heap.size w'.heap.size (some ⟨gg, 0, none⟩) lv vs ∧
          Tx w' b 6 3 true 0 false p1 (.slice none 0 0) (.slice (some ⟨bv, offv, none⟩) lv cv) (.slice none 0 0) ∧ w.grownBy w' (some b)) := by
        rintro w1 v' w' rfl hown hgrow
        rw [Nat.zero_add, List.nil_append] at hown
        obtain ⟨gg, ct, rfl, f1⟩ := owns_form hown hpos hvl
        refine ⟨gg, ct, rfl, f1.mono hgr.size (Nat.le_refl _) (fun _ _ _ => rfl), tt.drew.grown (Nat.lt_of_lt_of_le hb hgr.size) hgrow (by simp), ?_⟩
        exact gb_new (gb_drew hgr) hgrow (fun g h => by cases h)
      clear v3
      go_wp2
      go_region_law (refine step_append_grows rfl (.tmp 22) (.tmp 25) 28 rfl 41 i0 (.int .u32 0) 1 4 Try.underlying28 hi0 hz0 hz1 hz2 rfl (by decide) none 0 0 [] (by simp [Act.eval]) (fun _ => ⟨rfl, rfl⟩) rfl (by intro b h; cases h) ⟨bv, offv, none⟩ lv cv (vs.map (Value.int .u32)) (by simp [Act.eval]) (by simp [hvl]) (by exact hcv) (ints_oneCell _ _) (by omega) (by unfold maxLen; omega) (by omega) ?_; intro v' w1 hown hgrow; obtain ⟨gg, ct, rfl, f1, f2, f3⟩ := H.out _ _ _ rfl hown hgrow; have d18 := f2.c18; have d14 := f2.c14; have dz14 := f2.fz 14; have dz18 := f2.fz 18)
      all_goals
        go_wp2
        exact ⟨⟨2, by omega, rfl, gb_set (gb_set f3 _ _) _ _, fun h => by omega, fun _ => ⟨_, _, (f2.told _).voters _, f1.mono (Nat.le_refl _) (by simp) (fun k h1 h2 => by simp [Below.heap_setCell, show k ≠ b from by omega])⟩⟩, by simp [intOf]⟩
    · obtain ⟨at', ct, tt, har⟩ := ht2 rfl
      clear ht1 ht2
      have d18 := tt.c18
      go_wp2_with fail
      refine (tell_any 8 at' lv ct vs _ _ _ har hlv).mono ?_; rintro e w1 ⟨gg, cr, rfl, hown, hgrow⟩
      have hbr : b < wr.heap.size := Nat.lt_of_lt_of_le hb hgr.size
      have tt1 := tt.grown hbr hgrow (by simp)
      go_wp2_with fail
      refine (endIf_some b at' lv ct _ tt1.c18 hpos).mono ?_; rintro e w2 ⟨rfl, rfl⟩
      go_wp2_with (at_builtin; refine wpList_append_own_none rfl (.tmp 37) (.tmp 39) 30 rfl wr.heap.size 46 j0 3 Try.underlying30 hj0 _ _ _ rfl hown rfl ?_)
      go_wp2
      go_ret
      refine ⟨_, _, at', ct, rfl, (Acts_of_owns hown hv.length).mono hgr.size (Nat.le_refl _) (fun _ _ _ => rfl), har.mono (Nat.le_refl _) hgrow.size (fun k h1 h2 => hgrow.block k h2 (by simp)), tt1, gb_new hgr hgrow (fun g h => by cases h)⟩
end Go.Proofs.Qxb6613868a
