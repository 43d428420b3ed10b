/-
  Seat b6613868a. ZZvotingComplete in one contract over all ways: what the model asks of it afterwards.
-/
import Derived.Test.Qxb6613868aVote2
import Derived.Test.Qxb6613868aModel2
namespace Go.Proofs.Qxb6613868a
open Go.ChangeShapes Go.WideShapes Go.ChangeAt Go.RowKit

structure VC (w : World) (b lo : Nat) (sp : Bool) (lp lv : Nat) (ps vs : List Int) (ar : Option Addr) (l cr : Nat) (w' : World) : Prop where
  kept : w.grownBy w' (some b)
  two : 2 ≤ lp → l = lp ∧ Acts w' w.heap.size w'.heap.size ar lp 3 ps
  model : ∀ (w'' : World) (ap aw : Option Addr) (cp cw hi : Nat), (∀ k, (lo ≤ k ∧ k ≤ b) ∨ (w.heap.size ≤ k ∧ k < w'.heap.size) → w''.heap[k]? = w'.heap[k]?) → Arr w'' 0 hi ap lp ps → Arr w'' 0 hi aw lv vs →
    Calls Try.prog 10 #[.pointer (some ⟨b, 0, none⟩), .slice ar l cr, .slice ap lp cp, .slice aw lv cw, .bool sp] w'' fun e w3 => e = .returned (.bool true) ∧ ∃ n, w3 = w''.drewN n

theorem vc_all (b lo : Nat) (sp : Bool) (a1 av : Option Addr) (lp c1 lv cv : Nat) (ps vs : List Int) (w : World)
    (t : Tx w b 2 0 sp 0 false (.slice a1 lp c1) (.slice none 0 0) (.slice av lv cv) (.slice none 0 0)) (h1 : Arr w lo b a1 lp ps) (hv : Arr w lo b av lv vs) (hb : b < w.heap.size) (hlo : lo ≤ b) (hlp : lp ≤ 65536) (hlv : lv ≤ 65536) :
    Calls Try.prog 8 #[.pointer (some ⟨b, 0, none⟩)] w fun e w' => ∃ ar l cr, e = .returned (.slice ar l cr) ∧ VC w b lo sp lp lv ps vs ar l cr w' := by
  have keepArr : ∀ {a : Option Addr} {l : Nat} {zs : List Int} {w' w'' : World}, Arr w lo b a l zs → w.grownBy w' (some b) → (∀ k, (lo ≤ k ∧ k ≤ b) ∨ (w.heap.size ≤ k ∧ k < w'.heap.size) → w''.heap[k]? = w'.heap[k]?) → Arr w'' lo b a l zs :=
    fun h g e => h.mono (Nat.le_refl _) (Nat.le_refl _) (fun k k1 k2 => (e k (.inl ⟨k1, by omega⟩)).trans (g.block k (by omega) (by simp; omega)))
  refine zzvc_any b w _ ?_
  show Calls _ _ _ _ _
  by_cases p0 : lp = 0
  · subst p0
    refine vc_none b a1 c1 w _ t.c15 ?_
    show Calls _ _ _ _ _
    by_cases v0 : lv = 0
    · subst v0
      refine (p1c_none b sp _ av cv w t hb).mono ?_
      rintro e w' ⟨ar, l, cr, rfl, q⟩
      refine ⟨ar, l, cr, rfl, q.kept, fun h => by omega, ?_⟩
      intro w'' ap aw cp cw hi hk _ _
      obtain ⟨g, rfl, g1, g2, r0, r1, r2⟩ := q.r
      obtain rfl := q.l
      have eg : ∀ o, w''.cell? ⟨g, o, none⟩ = w'.cell? ⟨g, o, none⟩ := fun o => World.cell?_of_block (w := w') (hk g (.inr ⟨g1, g2⟩))
      exact model_none b g sp sp a1 av ap aw none none c1 cv cp cw 0 0 cr w'' (q.tx.mono (hk b (.inl ⟨hlo, Nat.le_refl _⟩))) ((eg 0).trans r0) ((eg 1).trans r1) ((eg 2).trans r2)
    · cases sp with
      | false =>
        refine (p1c_prep b _ av lv cv w t (by omega) hb).mono ?_
        rintro e w' ⟨ar, l, cr, rfl, q⟩
        refine ⟨ar, l, cr, rfl, q.kept, fun h => by omega, ?_⟩
        intro w'' ap aw cp cw hi hk _ hw
        obtain ⟨g, rfl, g1, g2, r0, r1, r2⟩ := q.r
        obtain rfl := q.l
        have eg : ∀ o, w''.cell? ⟨g, o, none⟩ = w'.cell? ⟨g, o, none⟩ := fun o => World.cell?_of_block (w := w') (hk g (.inr ⟨g1, g2⟩))
        exact model_prep b g false a1 av ap aw none none lv c1 cv cp cw 0 0 cr vs lo b 0 hi w'' (q.tx.mono (hk b (.inl ⟨hlo, Nat.le_refl _⟩))) (keepArr hv q.kept hk) hw hlv (by omega) ((eg 0).trans r0) ((eg 1).trans r1) ((eg 2).trans r2)
      | true =>
        refine (p1c_commit b _ av lv cv vs lo b w t hv hlv (by omega) hb (Nat.le_refl _)).mono ?_
        rintro e w' ⟨ar, l, cr, rfl, q⟩
        refine ⟨ar, l, cr, rfl, q.kept, fun h => by omega, ?_⟩
        intro w'' ap aw cp cw hi hk _ hw
        obtain ⟨at', ct, q1, q2⟩ := q.told
        obtain rfl := q.l
        exact model_commit b true a1 none ap aw none at' ar l c1 0 cp cw 0 ct cr vs w.heap.size w'.heap.size 0 hi w.heap.size w'.heap.size w'' (q2.mono (hk b (.inl ⟨hlo, Nat.le_refl _⟩))) (q1.mono (Nat.le_refl _) (Nat.le_refl _) (fun k k1 k2 => hk k (.inr ⟨k1, k2⟩))) hw hlv (by omega)
          (q.r.mono (Nat.le_refl _) (Nat.le_refl _) (fun k k1 k2 => hk k (.inr ⟨k1, k2⟩)))
  · by_cases hs : lp = 1 ∧ sp = true
    · obtain ⟨rfl, rfl⟩ := hs
      refine (vc_single b a1 c1 _ ps lo b w t h1 hb (Nat.le_refl _)).mono ?_
      rintro e w' ⟨ar, l, cr, rfl, q⟩
      refine ⟨ar, l, cr, rfl, q.kept, fun h => by omega, ?_⟩
      intro w'' ap aw cp cw hi hk hp hw
      obtain rfl := q.l
      exact model_single b true a1 av ap aw none none ar lv c1 cv cp cw 0 0 cr ps vs lo b 0 hi w.heap.size w'.heap.size w'' (q.tx.mono (hk b (.inl ⟨hlo, Nat.le_refl _⟩))) (keepArr h1 q.kept hk) (keepArr hv q.kept hk) hp hw
        (q.r.mono (Nat.le_refl _) (Nat.le_refl _) (fun k k1 k2 => hk k (.inr ⟨k1, k2⟩))) hlv
    · refine (vc_one b sp a1 lp c1 _ ps lo b w t h1 hb (Nat.le_refl _) (by omega) hlp (fun h => by cases sp <;> simp_all)).mono ?_
      rintro e w' ⟨ar, l, cr, rfl, q⟩
      refine ⟨ar, l, cr, rfl, q.kept, fun h => ⟨q.l, q.r⟩, ?_⟩
      intro w'' ap aw cp cw hi hk hp hw
      obtain rfl := q.l
      exact model_one b sp sp a1 av ap aw none none ar l lv c1 cv cp cw 0 0 cr ps vs lo b 0 hi w.heap.size w'.heap.size w'' (q.tx.mono (hk b (.inl ⟨hlo, Nat.le_refl _⟩))) (keepArr h1 q.kept hk) (keepArr hv q.kept hk) hp hw
        (q.r.mono (Nat.le_refl _) (Nat.le_refl _) (fun k k1 k2 => hk k (.inr ⟨k1, k2⟩))) hlp hlv (by omega) (by
          by_cases h : l = 1
          · subst h
            cases sp
            · rfl
            · exact absurd ⟨rfl, rfl⟩ hs
          · have : ((l : Int) == 1) = false := by rw [beq_eq_false_iff_ne]; omega
            rw [this]; rfl)
end Go.Proofs.Qxb6613868a
