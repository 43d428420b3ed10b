/-
  Seat b6614066a. THE SECOND LAW's WALK (4).
-/
import Derived.Test.Qxb6614066aSame
import Derived.Deep.CutRange
namespace Go.Proofs.Qxb6614066a
open Go.ChangeShapes Go.WideShapes Go.ChangeAt Go.RowKit

theorem u64_inj {x y : Int} (hx : -9223372036854775808 ≤ x) (hx' : x ≤ 9223372036854775807) (hy : -9223372036854775808 ≤ y) (hy' : y ≤ 9223372036854775807) (h : u64 x = u64 y) : x = y := by
  unfold u64 at h; omega
theorem u64_inj' {x y : Int} (hx : 0 ≤ x) (hx' : x ≤ 18446744073709551615) (hy : 0 ≤ y) (hy' : y ≤ 18446744073709551615) (h : u64 x = u64 y) : x = y := by
  unfold u64 at h; omega
theorem nums_inj {s t : ByteArray} (h : nums s = nums t) : s = t := by
  apply bytes_inj
  unfold nums at h
  refine List.map_inj_right (f := fun b : UInt8 => (b.toNat : Int)) ?_ |>.1 h
  intro x y e
  exact UInt8.toNat_inj.1 (by omega)
theorem bytesOf_inj {ss tt : List ByteArray} (h : bytesOf ss = bytesOf tt) : ss = tt :=
  (List.map_inj_right (f := nums) (fun _ _ e => nums_inj e)).1 h

/-- Two handoffs' bytes are one exactly where their fields are. -/
theorem hand_eq {sh cf fr sh' cf' fr' : Int} {ss tt : List ByteArray} (a0 : -9223372036854775808 ≤ sh ∧ sh ≤ 9223372036854775807) (a1 : -9223372036854775808 ≤ cf ∧ cf ≤ 9223372036854775807) (f0 : 0 ≤ fr) (f1 : fr ≤ 18446744073709551615)
    (b0 : -9223372036854775808 ≤ sh' ∧ sh' ≤ 9223372036854775807) (b1 : -9223372036854775808 ≤ cf' ∧ cf' ≤ 9223372036854775807) (g0 : 0 ≤ fr') (g1 : fr' ≤ 18446744073709551615)
    (hl : ss.length ≤ 1048576) (hl' : tt.length ≤ 1048576) (hS : ∀ s ∈ ss, s.size ≤ 1048576) (hT : ∀ s ∈ tt, s.size ≤ 1048576) :
    hand (u64 sh) (u64 cf) (u64 fr) (bytesOf ss) = hand (u64 sh') (u64 cf') (u64 fr') (bytesOf tt) ↔ sh = sh' ∧ cf = cf' ∧ fr = fr' ∧ ss = tt := by
  constructor
  · intro h
    have len : ∀ (ss : List ByteArray), (∀ s ∈ ss, s.size ≤ 1048576) → ∀ x ∈ bytesOf ss, x.length < 18446744073709551616 := by
      intro ss hS x hx
      obtain ⟨s, hs, rfl⟩ := List.mem_map.1 hx
      rw [nums_length]
      have := hS s hs
      omega
    obtain ⟨e1, e2, e3, e4⟩ := hand_inj (u64_lt _) (u64_lt _) (u64_lt _) (u64_lt _) (u64_lt _) (u64_lt _) (by simp [bytesOf]; omega) (by simp [bytesOf]; omega) (len ss hS) (len tt hT) h
    exact ⟨u64_inj a0.1 a0.2 b0.1 b0.2 e1, u64_inj a1.1 a1.2 b1.1 b1.2 e2, u64_inj' f0 f1 g0 g1 e3, bytesOf_inj e4⟩
  · rintro ⟨rfl, rfl, rfl, rfl⟩
    rfl

theorem hand_len {a b c : Nat} {ss : List ByteArray} (h : (strsOf (bytesOf ss)).length ≤ 1048576) : 1 ≤ (hand a b c (bytesOf ss)).length ∧ (hand a b c (bytesOf ss)).length ≤ 1048616 := by
  have h1 := uv_len a
  have h2 := uv_len b
  have h3 := uv_len c
  have h4 := uv_len (bytesOf ss).length
  simp [hand]
  omega

theorem rd_keep {W w' : World} {a : Option Addr} {n : Nat} {xs : List Int} (h : Rd W a n xs) (k : Below W.heap.size W w') : Rd w' a n xs := h.mono k.size (fun _ _ hx => k.block _ hx)
theorem strs_keep {W w' : World} {a : Option Addr} {n : Nat} {xs : List ByteArray} (h : Strs W a n xs) (k : Below W.heap.size W w') : Strs w' a n xs := h.mono k.size (fun _ hx => k.block _ hx)
theorem below_drewN {B : Nat} {a w : World} (h : Below B a w) (t : Nat) : Below B a (w.drewN t) := ⟨h.os, h.tape, h.output, h.size, h.block⟩
theorem new_step {K : Nat} {w w' : World} {v v' : Value} (hv : ∀ g, v.ownBlock = some g → K ≤ g) (s : Step w w' v v') (hK : K ≤ w.heap.size) : ∀ g, v'.ownBlock = some g → K ≤ g := by
  intro g hg
  rcases s.place with e | ⟨g', e, h⟩
  · exact hv g (e ▸ hg)
  · rw [e] at hg
    cases hg
    omega
theorem apart_far {W : World} {a : Option Addr} {n : Nat} {ss : List ByteArray} {v : Value} (h : Strs W a n ss) (hv : ∀ g, v.ownBlock = some g → W.heap.size ≤ g) : n = 0 ∨ Apart a v := apart_new h hv
theorem apart_nil {a : Option Addr} {n : Nat} : n = 0 ∨ Apart a (.slice none 0 0) := .inr (fun x _ => by simp [Value.ownBlock])

theorem drop1 (xs T1 T2 : List Int) (n : Nat) (h : xs.length = n) : (xs ++ T1 ++ T2).drop n = T1 ++ T2 := by
  subst h
  rw [List.append_assoc, List.drop_left]
theorem drop2 (xs T1 T2 : List Int) (n : Nat) (h : xs.length = n) : (xs ++ T1 ++ T2).drop (n + T1.length) = T2 ++ [] := by
  subst h
  rw [← List.length_append, List.drop_left, List.append_nil]

theorem two_facts (w : World) (c d : Array Value) (t : TypeId) : Below w.heap.size w ((w.alloc (.cells c t)).alloc (.cells d t)) ∧ (∀ i : Nat, ((w.alloc (.cells c t)).alloc (.cells d t)).cell? ⟨w.heap.size, i, none⟩ = c[i]?)
    ∧ (∀ i : Nat, ((w.alloc (.cells c t)).alloc (.cells d t)).cell? ⟨w.heap.size + 1, i, none⟩ = d[i]?) ∧ w.heap.size + 2 ≤ ((w.alloc (.cells c t)).alloc (.cells d t)).heap.size :=
  ⟨((Below.refl _ _).alloc (Nat.le_refl _) _).alloc (by simp) _, fun i => by simp, fun i => by simp, by simp⟩

set_option maxRecDepth 100000 in
set_option maxHeartbeats 3200000 in
theorem main4 (a sa sb : Option Addr) (n c m sc m' sc' : Nat) (xs : List Int) (sh cf fr : Int) (ss : List ByteArray) (sh' cf' fr' : Int) (tt : List ByteArray) (w : World) (h : Rd w a n xs) (hs : Strs w sa m ss) (ht : Strs w sb m' tt)
    (hn : n ≤ 9223372036854775807) (hm : m ≤ 9223372036854775807) (hm' : m' ≤ 9223372036854775807) (hS : ∀ s ∈ ss, s.size ≤ 9223372036854775807) (hT : ∀ s ∈ tt, s.size ≤ 9223372036854775807)
    (a0 : -9223372036854775808 ≤ sh ∧ sh ≤ 9223372036854775807) (a1 : -9223372036854775808 ≤ cf ∧ cf ≤ 9223372036854775807) (f0 : 0 ≤ fr) (f1 : fr ≤ 18446744073709551615)
    (b0 : -9223372036854775808 ≤ sh' ∧ sh' ≤ 9223372036854775807) (b1 : -9223372036854775808 ≤ cf' ∧ cf' ≤ 9223372036854775807) (g0 : 0 ≤ fr') (g1 : fr' ≤ 18446744073709551615) :
    Calls Try.prog 4 #[.slice a n c, .int .i64 sh, .int .i64 cf, .int .u64 fr, .slice sa m sc, .int .i64 sh', .int .i64 cf', .int .u64 fr', .slice sb m' sc'] w fun e w' => e = .returned (.bool true) ∧ Below w.heap.size w w' := by
  have HS := hide hS
  have HT := hide hT
  have hsl := hs.length
  have htl := ht.length
  have hxl := h.length
  clear hS hT
  go_enter Try.func4, Try.ntmps4
  go_wp2_with fail
  refine (zzBytes2_any a n c sh cf fr sh' cf' fr' sa sb m sc m' sc' ss tt w hn hs hm HS.out ht hm' HT.out).mono ?_; rintro e w' ⟨⟨b, rfl⟩, rfl⟩
  cases b
  · go_wp2_with fail
    go_ret
    exact ⟨rfl, Below.refl _ _⟩
  by_cases g1' : n ≤ 1048576
  case neg =>
    go_wp2_with fail
    go_ret
    exact ⟨rfl, Below.refl _ _⟩
  go_wp2_with fail
  refine (addServers_any n sa m sc ss _ g1' hs hm HS.out).mono ?_; rintro e w1 ⟨⟨hadd⟩, rfl⟩
  rcases hadd with ⟨T, rfl⟩ | ⟨rfl, hsum, hS⟩
  · go_wp2_with fail
    go_ret
    exact ⟨rfl, Below.refl _ _⟩
  have hle := strs_le ss
  have hT1 : (strsOf (bytesOf ss)).length ≤ 1048576 := by omega
  have hm2 : m ≤ 1048576 := by omega
  clear HS hle
  have HS := hide hS
  clear hS
  generalize n + sumS ss = N at *
  go_wp2_with fail
  refine (addServers_any N sb m' sc' tt _ hsum ht hm' HT.out).mono ?_; rintro e w2 ⟨⟨hadd⟩, rfl⟩
  rcases hadd with ⟨T, rfl⟩ | ⟨rfl, hsum2, hS⟩
  · go_wp2_with fail
    go_ret
    exact ⟨rfl, Below.refl _ _⟩
  have hle := strs_le tt
  have hT2 : (strsOf (bytesOf tt)).length ≤ 1048576 := by omega
  have hm2' : m' ≤ 1048576 := by omega
  clear HT hle
  have HT := hide hS
  clear hS
  generalize N + sumS tt = N2 at *
  have HEQ := hide (hand_eq a0 a1 f0 f1 b0 b1 g0 g1 (by omega) (by omega) HS.out HT.out)
  have L1 := hand_len (a := u64 sh) (b := u64 cf) (c := u64 fr) hT1
  have L2 := hand_len (a := u64 sh') (b := u64 cf') (c := u64 fr') hT2
  go_upto_region 13 with fail
  obtain ⟨bW, hc, hd, zW⟩ := two_facts w2 #[.int .i64 sh, .int .i64 cf, .int .u64 fr, .slice sa m sc] #[.int .i64 sh', .int .i64 cf', .int .u64 fr', .slice sb m' sc'] 29
  generalize ((w2.alloc (.cells #[.int .i64 sh, .int .i64 cf, .int .u64 fr, .slice sa m sc] 29)).alloc (.cells #[.int .i64 sh', .int .i64 cf', .int .u64 fr', .slice sb m' sc'] 29)) = W at *
  have c0 : W.cell? ⟨w2.heap.size, 0, none⟩ = some (.int .i64 sh) := hc 0
  have c1 : W.cell? ⟨w2.heap.size, 1, none⟩ = some (.int .i64 cf) := hc 1
  have c2 : W.cell? ⟨w2.heap.size, 2, none⟩ = some (.int .u64 fr) := hc 2
  have c3 : W.cell? ⟨w2.heap.size, 3, none⟩ = some (.slice sa m sc) := hc 3
  have d0 : W.cell? ⟨w2.heap.size + 1, 0, none⟩ = some (.int .i64 sh') := hd 0
  have d1 : W.cell? ⟨w2.heap.size + 1, 1, none⟩ = some (.int .i64 cf') := hd 1
  have d2 : W.cell? ⟨w2.heap.size + 1, 2, none⟩ = some (.int .u64 fr') := hd 2
  have d3 : W.cell? ⟨w2.heap.size + 1, 3, none⟩ = some (.slice sb m' sc') := hd 3
  have hW : Rd W a n xs := h.mono bW.size (fun x _ hx => bW.block _ hx)
  have hsW : Strs W sa m ss := hs.mono bW.size (fun k hk => bW.block _ hk)
  have htW : Strs W sb m' tt := ht.mono bW.size (fun k hk => bW.block _ hk)
  clear hc hd
  generalize hB : w2.heap.size = B at *
  have HB := hide hB
  clear hB h hs ht
  generalize hTT1 : hand (u64 sh) (u64 cf) (u64 fr) (bytesOf ss) = T1 at *
  generalize hTT2 : hand (u64 sh') (u64 cf') (u64 fr') (bytesOf tt) = T2 at *
  have HT1 := hide hTT1
  have HT2 := hide hTT2
  clear hTT1 hTT2
  go_cut [25] from 75 to 80 (fun v wx => Buf wx v (xs ++ T1 ++ T2) ∧ Below W.heap.size W wx)
  case first =>
    go_region_with (first
      | (go_at_call 8; refine (clone_any a n c xs _ (by exact hW.drew) g1').mono ?_; rintro e w3 ⟨v3, rfl, hb3, gr3, nw3⟩; have K3 : Below W.heap.size W w3 := below_gb (Below.refl _ _).drew gr3 (Nat.le_refl _); have N3 : ∀ g, v3.ownBlock = some g → W.heap.size ≤ g := nw3; have x0 := (K3.cell (p := ⟨B, 0, none⟩) (by show B < _; omega)).trans c0; have x1 := (K3.cell (p := ⟨B, 1, none⟩) (by show B < _; omega)).trans c1; have x2 := (K3.cell (p := ⟨B, 2, none⟩) (by show B < _; omega)).trans c2; have x3 := (K3.cell (p := ⟨B, 3, none⟩) (by show B < _; omega)).trans c3; have y0 := (K3.cell (p := ⟨B + 1, 0, none⟩) (by show B + 1 < _; omega)).trans d0; have y1 := (K3.cell (p := ⟨B + 1, 1, none⟩) (by show B + 1 < _; omega)).trans d1; have y2 := (K3.cell (p := ⟨B + 1, 2, none⟩) (by show B + 1 < _; omega)).trans d2; have y3 := (K3.cell (p := ⟨B + 1, 3, none⟩) (by show B + 1 < _; omega)).trans d3; clear gr3 nw3)
      | (go_at_call 7; refine (zzHandoff_any v3 xs sh cf fr sa m sc ss _ (by exact hb3) (by omega) (by exact strs_keep hsW K3) (by exact apart_far hsW N3) hm2 hT1 HS.out f0 f1).mono ?_; rintro e w4 ⟨v4, rfl, hb4, S4⟩; rw [HT1.out] at hb4; have K4 : Below W.heap.size W w4 := below_step K3 S4 K3.size N3; have N4 := new_step N3 S4 K3.size; have z0 := (K4.cell (p := ⟨B + 1, 0, none⟩) (by show B + 1 < _; omega)).trans d0; have z1 := (K4.cell (p := ⟨B + 1, 1, none⟩) (by show B + 1 < _; omega)).trans d1; have z2 := (K4.cell (p := ⟨B + 1, 2, none⟩) (by show B + 1 < _; omega)).trans d2; have z3 := (K4.cell (p := ⟨B + 1, 3, none⟩) (by show B + 1 < _; omega)).trans d3; clear S4)
      | (go_at_call 7; refine (zzHandoff_any v4 (xs ++ T1) sh' cf' fr' sb m' sc' tt _ (by exact hb4) (by simp; omega) (by exact strs_keep htW K4) (by exact apart_far htW N4) hm2' hT2 HT.out g0 g1).mono ?_; rintro e w5 ⟨v5, rfl, hb5, S5⟩; rw [HT2.out] at hb5; have K5 : Below W.heap.size W w5 := below_step K4 S5 K4.size N4; clear S5))
    all_goals (go_wp2_with fail; go_meet; exact ⟨hb5, K5⟩)
  case rest =>
    obtain ⟨hbuf, hbel⟩ := hcut
    obtain ⟨ao, co, rfl, rdo, _⟩ := hbuf.form
    have rda := rd_keep hW hbel
    have s1 := strs_keep hsW hbel
    have s2 := strs_keep htW hbel
    have x0 := (hbel.cell (p := ⟨B, 0, none⟩) (by show B < _; omega)).trans c0
    have x1 := (hbel.cell (p := ⟨B, 1, none⟩) (by show B < _; omega)).trans c1
    have x2 := (hbel.cell (p := ⟨B, 2, none⟩) (by show B < _; omega)).trans c2
    have x3 := (hbel.cell (p := ⟨B, 3, none⟩) (by show B < _; omega)).trans c3
    have hL : (xs ++ T1 ++ T2).length = n + T1.length + T2.length := by rw [List.length_append, List.length_append, hxl]
    have hG : Hid (∀ k, k < n → (xs ++ T1 ++ T2)[k]?.getD 0 = xs[k]?.getD 0) := fun k hk => by rw [List.append_assoc, get_left xs _ k (by omega)]
    have HD1 : Hid ((xs ++ T1 ++ T2).drop n = hand (u64 sh) (u64 cf) (u64 fr) (bytesOf ss) ++ T2) := by show _ = _; rw [HT1.out]; exact drop1 xs T1 T2 n hxl
    have HD2 : Hid ((xs ++ T1 ++ T2).drop (n + T1.length) = hand (u64 sh') (u64 cf') (u64 fr') (bytesOf tt) ++ []) := by show _ = _; rw [HT2.out]; exact drop2 xs T1 T2 n hxl
    generalize (xs ++ T1 ++ T2).length = L at *
    generalize xs ++ T1 ++ T2 = OUT at *
    obtain ⟨M, hM⟩ : ∃ M, n + T1.length = M := ⟨_, rfl⟩
    rw [hM] at HD2 hL
    have HM := hide hM
    have HL := hide hL
    have l1 : n ≤ M := by omega
    have l2 : M ≤ L := by omega
    have l3 : L ≤ 3145808 := by omega
    have t1l : T1.length ≤ 1048616 := L1.2
    have t2l : T2.length ≤ 1048616 := L2.2
    clear hM hL hbuf hW L1 L2 hn hm hm' hsum hsum2 hxl c0 c1 c2 c3
    go_wp2_with fail
    go_loopw [26] (fun kv wr => ∃ k t : Nat, k ≤ n ∧ kv = .int .i64 k ∧ wr = wc.drewN t) (fun kv _ => n - (intOf kv).toNat)
    case atStart => exact ⟨0, 0, Nat.zero_le _, rfl, rfl⟩
    case round =>
      obtain ⟨k, t, hk, rfl, rfl⟩ := hrel
      by_cases hlt : k < n
      · obtain ⟨bo, fo, rfl, y1, y2⟩ := rdo.at_.resolve_left (by omega)
        obtain ⟨ba, fa, rfl, y3, y4⟩ := rda.at_.resolve_left (by omega)
        have q1 := y2 k (by omega)
        have q2 := y4 k hlt
        rw [hG.out k hlt] at q1
        clear y2 y4
        generalize xs[k]?.getD 0 = z at q1 q2
        have i1 : (k : Int) < (n : Int) := by omega
        have i2 : (k : Int) < (L : Int) := by omega
        clear HEQ HT1 HT2 HD1 HD2 HS HT hG d0 d1 d2 d3 x0 x1 x2 x3
        go_wp2
        go_quiet (fail)
        go_wp2
        go_roundw
        case rel => exact ⟨k + 1, _, by omega, by go_num, rfl⟩
        case measure => simp [intOf]; omega
      · clear hG
        go_wp2_with fail
        refine (match_any ao sa L co m sc n OUT T2 sh cf fr ss _ (rdo.drewN t) (s1.drewN t) (by omega) hm2 f0 f1 HS.out HD1.out).mono ?_; rintro e w5 ⟨rfl, t3, rfl⟩
        rw [HT1.out, HM.out]
        clear HD1
        go_wp2_with fail
        refine (match_any ao sb L co m' sc' M OUT [] sh' cf' fr' tt _ (rdo.drewN _) (s2.drewN _) (by omega) hm2' g0 g1 HT.out HD2.out).mono ?_; rintro e w6 ⟨rfl, t4, rfl⟩
        rw [HT2.out, ← HL.out]
        clear HD2
        go_wp2_with fail
        refine (zzHandoff_any (.slice none 0 0) [] sh cf fr sa m sc ss _ (Buf.nil _) (by simp) (s1.drewN _) apart_nil hm2 hT1 HS.out f0 f1).mono ?_; rintro e w7 ⟨v7, rfl, hb7, S7⟩
        rw [List.nil_append, HT1.out] at hb7
        have K7 : Below W.heap.size W w7 := below_gb (below_drewN hbel _) S7.grown hbel.size
        have y0 := (K7.cell (p := ⟨B + 1, 0, none⟩) (by show B + 1 < _; omega)).trans d0
        have y1 := (K7.cell (p := ⟨B + 1, 1, none⟩) (by show B + 1 < _; omega)).trans d1
        have y2 := (K7.cell (p := ⟨B + 1, 2, none⟩) (by show B + 1 < _; omega)).trans d2
        have y3 := (K7.cell (p := ⟨B + 1, 3, none⟩) (by show B + 1 < _; omega)).trans d3
        obtain ⟨p1, k1, rfl, r1, _⟩ := hb7.form
        clear S7 hb7 x0 x1 x2 x3 d0 d1 d2 d3 rdo rda s1 s2
        go_wp2_with fail
        refine (zzHandoff_any (.slice none 0 0) [] sh' cf' fr' sb m' sc' tt _ (Buf.nil _) (by simp) (strs_keep htW K7) apart_nil hm2' hT2 HT.out g0 g1).mono ?_; rintro e w8 ⟨v8, rfl, hb8, S8⟩
        rw [List.nil_append, HT2.out] at hb8
        have K8 : Below W.heap.size W w8 := below_gb K7 S8.grown K7.size
        have gr8 : w7.grownBy w8 none := S8.grown
        have r1' := r1.mono gr8.size (fun x _ hx => gr8.block _ hx (by simp))
        obtain ⟨p2, k2, rfl, r2, _⟩ := hb8.form
        have FIN : Hid (∀ t, Below w2.heap.size w2 (w8.drewN t)) := fun t => by rw [HB.out]; exact bW.trans ((below_drewN K8 t).mono (by omega))
        have s1 := strs_keep hsW K8
        have s2 := strs_keep htW K8
        clear S8 hb8 y0 y1 y2 y3 r1 gr8 hbel K7 K8 HT1 HT2 HS HT HM HL hsW htW bW zW HB
        by_cases e1 : sh = sh'
        case neg =>
          have HN : Hid (T1 ≠ T2) := fun e => e1 (HEQ.out.1 e).1
          clear HEQ
          have e1' : (sh == sh') = false := by simp [e1]
          go_wp2_with fail
          refine (bytesEqual_any p1 p2 T1.length k1 T2.length k2 T1 T2 _ r1' r2 (by omega) (by omega)).mono ?_; rintro e w9 ⟨⟨b, rfl, hb⟩, t9, rfl⟩
          obtain rfl : b = false := by cases b; rfl; exact absurd (hb.1 rfl) HN.out
          go_wp2_with fail
          go_ret
          exact ⟨by first | rfl | simp, FIN.out _⟩
        by_cases e2 : cf = cf'
        case neg =>
          have HN : Hid (T1 ≠ T2) := fun e => e2 (HEQ.out.1 e).2.1
          clear HEQ
          have e1' : (sh == sh') = true := by simp [e1]
          have e2' : (cf == cf') = false := by simp [e2]
          go_wp2_with fail
          refine (bytesEqual_any p1 p2 T1.length k1 T2.length k2 T1 T2 _ r1' r2 (by omega) (by omega)).mono ?_; rintro e w9 ⟨⟨b, rfl, hb⟩, t9, rfl⟩
          obtain rfl : b = false := by cases b; rfl; exact absurd (hb.1 rfl) HN.out
          go_wp2_with fail
          go_ret
          exact ⟨by first | rfl | simp, FIN.out _⟩
        by_cases e3 : fr = fr'
        case neg =>
          have HN : Hid (T1 ≠ T2) := fun e => e3 (HEQ.out.1 e).2.2.1
          clear HEQ
          have e1' : (sh == sh') = true := by simp [e1]
          have e2' : (cf == cf') = true := by simp [e2]
          have e3' : (fr == fr') = false := by simp [e3]
          go_wp2_with fail
          refine (bytesEqual_any p1 p2 T1.length k1 T2.length k2 T1 T2 _ r1' r2 (by omega) (by omega)).mono ?_; rintro e w9 ⟨⟨b, rfl, hb⟩, t9, rfl⟩
          obtain rfl : b = false := by cases b; rfl; exact absurd (hb.1 rfl) HN.out
          go_wp2_with fail
          go_ret
          exact ⟨by first | rfl | simp, FIN.out _⟩
        subst e1 e2 e3
        have HE : Hid (T1 = T2 ↔ ss = tt) := ⟨fun e => (HEQ.out.1 e).2.2.2, fun e => HEQ.out.2 ⟨rfl, rfl, rfl, e⟩⟩
        clear HEQ
        go_wp2_with fail
        refine (sameServers_any sa sb m sc m' sc' ss tt _ s1 s2 (by omega) (by omega)).mono ?_; rintro e w9 ⟨⟨b, rfl, hb⟩, t9, rfl⟩
        have HBB := hide (hb.trans HE.out.symm)
        clear hb HE
        go_wp2_with fail
        refine (bytesEqual_any p1 p2 T1.length k1 T2.length k2 T1 T2 _ (r1'.drewN _) (r2.drewN _) (by omega) (by omega)).mono ?_; rintro e w9 ⟨⟨b2, rfl, hb2⟩, t10, rfl⟩
        obtain rfl : b = b2 := by
          have := HBB.out.trans hb2.symm
          cases b <;> cases b2 <;> simp_all
        clear HBB hb2
        cases b
        · go_wp2_with fail
          go_ret
          exact ⟨by first | rfl | simp, FIN.out _⟩
        · go_wp2_with fail
          go_ret
          exact ⟨by first | rfl | simp, FIN.out _⟩
end Go.Proofs.Qxb6614066a
