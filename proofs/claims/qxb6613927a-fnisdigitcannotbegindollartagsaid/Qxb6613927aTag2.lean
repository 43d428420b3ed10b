/-
  Seat b6613927a. THE WALKS of dollarTag (15) at strings of three and four bytes, ZZdollarTag (12).
-/
import Derived.Test.Qxb6613927aTag
namespace Go.Proofs.Qxb6613927a
open Go.ChangeShapes Go.WideShapes Go.ChangeAt Go.RowKit

/-- The string that comes back is empty, or not. -/
structure Back (b : Bool) (e : Ending) : Prop where
  get : ∃ t : ByteArray, e = .returned (.string t) ∧ (t.toList == []) = b

theorem cut_not_empty (s : ByteArray) (n : Nat) (h : 1 ≤ n) (hn : 1 ≤ s.size) : ((s.extract 0 n).toList == []) = false := by
  have : (s.extract 0 n).toList ≠ [] := by
    rw [ByteArray.toList_eq]
    intro h0
    have h1 := congrArg List.length h0
    have h2 : (s.extract 0 n).size = 0 := by
      have : (s.extract 0 n).data.size = (s.extract 0 n).data.toList.length := by simp
      rw [ByteArray.size, this, h1]; rfl
    rw [ByteArray.size_extract] at h2
    omega
  simpa using this

set_option maxHeartbeats 800000 in
/-- '$' d '$' -/
theorem tag3 (s : ByteArray) (d : Int) (hs : s.size = 3) (p1 : 1 < s.size) (p2 : 2 < s.size) (h1 : ((s[1]'p1).toNat : Int) = d) (h2 : ((s[2]'p2).toNat : Int) = 36) (hp : ((s.extract 0 1).toList == [36]) = true) (b : Bool) (hb : b = true ↔ (d ≠ 36 ∧ (¬ W d ∨ (48 ≤ d ∧ d ≤ 57)))) (w : World) :
    Calls Try.prog 15 #[.string s] w fun e w' => Back b e ∧ w' = w := by
  have HP := hide hp
  clear hp
  have hs1 : 1 ≤ s.size := by omega
  have hs4 : s.size ≤ 4 := by omega
  have b2 := cut_not_empty s 2 (by omega) hs1
  have b3 := cut_not_empty s 3 (by omega) hs1
  have B2 := hide b2
  have B3 := hide b3
  clear b2 b3
  by_cases e36 : d = 36
  · have hr : b = false := by
      cases b
      · rfl
      · exact absurd e36 (hb.1 rfl).1
    subst hr
    clear hb
    subst e36
    go_enter Try.func15, Try.ntmps15
    go_wp2_with fail
    refine (prefix_any s _ hs1 hs4 HP.out).mono ?_; rintro e w' ⟨rfl, rfl⟩
    go_wp2
    go_loop [3] (fun i => i = .int .i64 1) (fun _ => 0)
    case atStart => rfl
    case round =>
      subst hrel
      go_wp2
      go_ret
      exact ⟨⟨_, rfl, by simpa using B2.out⟩, rfl⟩
  · have f36 : (d == 36) = false := by rw [beq_eq_false_iff_ne]; exact e36
    by_cases hw : W d
    · by_cases hd : 48 ≤ d ∧ d ≤ 57
      · have hr : b = true := hb.2 ⟨e36, .inr hd⟩
        subst hr
        clear hb
        obtain ⟨d1, d2⟩ := hd
        have HW := hide hw
        clear hw
        go_enter Try.func15, Try.ntmps15
        go_wp2_with fail
        refine (prefix_any s _ hs1 hs4 HP.out).mono ?_; rintro e w' ⟨rfl, rfl⟩
        go_wp2
        go_loop [3] (fun i => i = .int .i64 1) (fun _ => 0)
        case atStart => rfl
        case round =>
          subst hrel
          go_wp2_with fail
          refine (isWord_yes d HW.out _).mono ?_; rintro e w' ⟨rfl, rfl⟩
          go_wp2_with fail
          refine (isDigit_yes d d1 d2 _).mono ?_; rintro e w' ⟨rfl, rfl⟩
          go_wp2_with fail
          go_ret
          exact ⟨⟨_, rfl, by simp⟩, rfl⟩
      · have hr : b = false := by
          cases b
          · rfl
          · rcases (hb.1 rfl).2 with h | h
            · exact absurd hw h
            · exact absurd h hd
        subst hr
        clear hb
        have HD := hide hd
        have HW := hide hw
        clear hw hd
        go_enter Try.func15, Try.ntmps15
        go_wp2_with fail
        refine (prefix_any s _ hs1 hs4 HP.out).mono ?_; rintro e w' ⟨rfl, rfl⟩
        go_wp2
        go_loop [3] (fun i => ∃ k : Nat, i = .int .i64 k ∧ (k = 1 ∨ k = 2)) (fun i => 2 - (intOf i).toNat)
        case atStart => exact ⟨1, rfl, .inl rfl⟩
        case round =>
          obtain ⟨k, rfl, hk⟩ := hrel
          rcases hk with rfl | rfl
          · go_wp2_with fail
            refine (isWord_yes d HW.out _).mono ?_; rintro e w' ⟨rfl, rfl⟩
            go_wp2_with fail
            refine (isDigit_no d HD.out _).mono ?_; rintro e w' ⟨rfl, rfl⟩
            go_wp2_with fail
            exact ⟨⟨2, rfl, .inr rfl⟩, by simp [intOf]⟩
          · go_wp2_with fail
            go_ret
            exact ⟨⟨_, rfl, by simpa using B3.out⟩, rfl⟩
    · have hr : b = true := hb.2 ⟨e36, .inl hw⟩
      subst hr
      clear hb
      have HW := hide hw
      clear hw
      go_enter Try.func15, Try.ntmps15
      go_wp2_with fail
      refine (prefix_any s _ hs1 hs4 HP.out).mono ?_; rintro e w' ⟨rfl, rfl⟩
      go_wp2
      go_loop [3] (fun i => i = .int .i64 1) (fun _ => 0)
      case atStart => rfl
      case round =>
        subst hrel
        go_wp2_with fail
        refine (isWord_no d HW.out _).mono ?_; rintro e w' ⟨rfl, rfl⟩
        go_wp2_with fail
        go_ret
        exact ⟨⟨_, rfl, by simp⟩, rfl⟩

theorem W_x : W 120 := by unfold W; omega
theorem D_x : ¬ ((48 : Int) ≤ 120 ∧ (120 : Int) ≤ 57) := by omega

set_option maxHeartbeats 800000 in
/-- '$x' d '$' -/
theorem tag4 (s : ByteArray) (d : Int) (hs : s.size = 4) (p1 : 1 < s.size) (p2 : 2 < s.size) (p3 : 3 < s.size) (h1 : ((s[1]'p1).toNat : Int) = 120) (h2 : ((s[2]'p2).toNat : Int) = d) (h3 : ((s[3]'p3).toNat : Int) = 36)
    (hp : ((s.extract 0 1).toList == [36]) = true) (b : Bool) (hb : b = true ↔ ¬ W d) (w : World) :
    Calls Try.prog 15 #[.string s] w fun e w' => Back b e ∧ w' = w := by
  have HP := hide hp
  clear hp
  have hs1 : 1 ≤ s.size := by omega
  have hs4 : s.size ≤ 4 := by omega
  have b3 := cut_not_empty s 3 (by omega) hs1
  have b4 := cut_not_empty s 4 (by omega) hs1
  have B3 := hide b3
  have B4 := hide b4
  clear b3 b4
  by_cases e36 : d = 36
  · have hr : b = false := by
      cases b
      · rfl
      · exact absurd (by subst e36; unfold W; omega) (hb.1 rfl)
    subst hr
    clear hb
    subst e36
    go_enter Try.func15, Try.ntmps15
    go_wp2_with fail
    refine (prefix_any s _ hs1 hs4 HP.out).mono ?_; rintro e w' ⟨rfl, rfl⟩
    go_wp2
    go_loop [3] (fun i => ∃ k : Nat, i = .int .i64 k ∧ (k = 1 ∨ k = 2)) (fun i => 2 - (intOf i).toNat)
    case atStart => exact ⟨1, rfl, .inl rfl⟩
    case round =>
      obtain ⟨k, rfl, hk⟩ := hrel
      rcases hk with rfl | rfl
      · go_wp2_with fail
        refine (isWord_yes 120 W_x _).mono ?_; rintro e w' ⟨rfl, rfl⟩
        go_wp2_with fail
        refine (isDigit_no 120 D_x _).mono ?_; rintro e w' ⟨rfl, rfl⟩
        go_wp2_with fail
        exact ⟨⟨2, rfl, .inr rfl⟩, by simp [intOf]⟩
      · go_wp2_with fail
        go_ret
        exact ⟨⟨_, rfl, by simpa using B3.out⟩, rfl⟩
  · have f36 : (d == 36) = false := by rw [beq_eq_false_iff_ne]; exact e36
    by_cases hw : W d
    · have hr : b = false := by
        cases b
        · rfl
        · exact absurd hw (hb.1 rfl)
      subst hr
      have HW := hide hw
      clear hb hw
      go_enter Try.func15, Try.ntmps15
      go_wp2_with fail
      refine (prefix_any s _ hs1 hs4 HP.out).mono ?_; rintro e w' ⟨rfl, rfl⟩
      go_wp2
      go_loop [3] (fun i => ∃ k : Nat, i = .int .i64 k ∧ (k = 1 ∨ k = 2 ∨ k = 3)) (fun i => 3 - (intOf i).toNat)
      case atStart => exact ⟨1, rfl, .inl rfl⟩
      case round =>
        obtain ⟨k, rfl, hk⟩ := hrel
        rcases hk with rfl | rfl | rfl
        · go_wp2_with fail
          refine (isWord_yes 120 W_x _).mono ?_; rintro e w' ⟨rfl, rfl⟩
          go_wp2_with fail
          refine (isDigit_no 120 D_x _).mono ?_; rintro e w' ⟨rfl, rfl⟩
          go_wp2_with fail
          exact ⟨⟨2, rfl, .inr (.inl rfl)⟩, by simp [intOf]⟩
        · go_wp2_with fail
          refine (isWord_yes d HW.out _).mono ?_; rintro e w' ⟨rfl, rfl⟩
          go_wp2_with fail
          exact ⟨⟨3, rfl, .inr (.inr rfl)⟩, by simp [intOf]⟩
        · go_wp2_with fail
          go_ret
          exact ⟨⟨_, rfl, by simpa using B4.out⟩, rfl⟩
    · have hr : b = true := hb.2 hw
      subst hr
      have HW := hide hw
      clear hb hw
      go_enter Try.func15, Try.ntmps15
      go_wp2_with fail
      refine (prefix_any s _ hs1 hs4 HP.out).mono ?_; rintro e w' ⟨rfl, rfl⟩
      go_wp2
      go_loop [3] (fun i => ∃ k : Nat, i = .int .i64 k ∧ (k = 1 ∨ k = 2)) (fun i => 2 - (intOf i).toNat)
      case atStart => exact ⟨1, rfl, .inl rfl⟩
      case round =>
        obtain ⟨k, rfl, hk⟩ := hrel
        rcases hk with rfl | rfl
        · go_wp2_with fail
          refine (isWord_yes 120 W_x _).mono ?_; rintro e w' ⟨rfl, rfl⟩
          go_wp2_with fail
          refine (isDigit_no 120 D_x _).mono ?_; rintro e w' ⟨rfl, rfl⟩
          go_wp2_with fail
          exact ⟨⟨2, rfl, .inr rfl⟩, by simp [intOf]⟩
        · go_wp2_with fail
          refine (isWord_no d HW.out _).mono ?_; rintro e w' ⟨rfl, rfl⟩
          go_wp2_with fail
          go_ret
          exact ⟨⟨_, rfl, by simp⟩, rfl⟩

theorem zzTag_any (s : ByteArray) (b : Bool) (w : World) (H : Hid (Calls Try.prog 15 #[.string s] w fun e w' => Back b e ∧ w' = w)) :
    Calls Try.prog 12 #[.string s] w fun e w' => Back b e ∧ w' = w := by
  go_enter Try.func12, Try.ntmps12
  go_wp2_with fail
  refine (H.out).mono ?_; rintro e w' ⟨⟨t, rfl, ht⟩, rfl⟩
  have HT := hide ht
  clear ht
  go_wp2_with fail
  go_ret
  exact ⟨⟨_, rfl, HT.out⟩, rfl⟩

/-- ZZdollarTag at the bytes that the law builds. -/
theorem zz3 (c : UInt8) (b : Bool) (hb : b = true ↔ ((c.toNat : Int) ≠ 36 ∧ (¬ W c.toNat ∨ (48 ≤ (c.toNat : Int) ∧ (c.toNat : Int) ≤ 57)))) (w : World) :
    Calls Try.prog 12 #[.string ⟨#[36, c, 36]⟩] w fun e w' => Back b e ∧ w' = w :=
  zzTag_any _ b w (tag3 ⟨#[36, c, 36]⟩ c.toNat rfl (by show 1 < 3; omega) (by show 2 < 3; omega) rfl rfl (s3_prefix c) b hb w)
theorem zz4 (c : UInt8) (b : Bool) (hb : b = true ↔ ¬ W c.toNat) (w : World) :
    Calls Try.prog 12 #[.string ⟨#[36, 120, c, 36]⟩] w fun e w' => Back b e ∧ w' = w :=
  zzTag_any _ b w (tag4 ⟨#[36, 120, c, 36]⟩ c.toNat rfl (by show 1 < 4; omega) (by show 2 < 4; omega) (by show 3 < 4; omega) rfl rfl rfl (s4_prefix c) b hb w)
end Go.Proofs.Qxb6613927a
