/-
  Seat b6614066a. PLAIN LAWS, no Go in sight: the unsigned LEB128 number, a handoff's bytes, and that they can be read back.
-/
import Derived.Laws.BitsAllLaws
import Derived.Laws.BitsLemmas
namespace Go.Proofs.Qxb6614066a

/-- The bytes of x, at most f + 1 of them. -/
def uvF : Nat → Nat → List Int
  | 0, x => [(x : Int)]
  | f + 1, x => if x < 128 then [(x : Int)] else ((x % 128 + 128 : Nat) : Int) :: uvF f (x / 128)
def uv (x : Nat) : List Int := uvF 9 x

theorem uvF_small (f x : Nat) (h : x < 128) : uvF f x = [(x : Int)] := by
  cases f with
  | zero => rfl
  | succ f => simp [uvF, h]
theorem uvF_big (f x : Nat) (h : 128 ≤ x) : uvF (f + 1) x = ((x % 128 + 128 : Nat) : Int) :: uvF f (x / 128) := by
  simp [uvF, Nat.not_lt.2 h]
theorem uvF_len (f : Nat) : ∀ x, 1 ≤ (uvF f x).length ∧ (uvF f x).length ≤ f + 1 := by
  induction f with
  | zero => intro x; simp [uvF]
  | succ f ih =>
    intro x
    by_cases h : x < 128
    · rw [uvF_small _ _ h]; simp
    · rw [uvF_big _ _ (by omega)]
      have := ih (x / 128)
      simp; omega
theorem uv_len (x : Nat) : 1 ≤ (uv x).length ∧ (uv x).length ≤ 10 := uvF_len 9 x

/-- Two numbers' bytes, each followed by something: if the wholes are one, so are the numbers and what follows. -/
theorem uvF_inj (f : Nat) : ∀ x y r s, x < 128 ^ (f + 1) → y < 128 ^ (f + 1) → uvF f x ++ r = uvF f y ++ s → x = y ∧ r = s := by
  induction f with
  | zero =>
    intro x y r s hx hy h
    simp [uvF] at h
    exact ⟨by omega, h.2⟩
  | succ f ih =>
    intro x y r s hx hy h
    by_cases h1 : x < 128
    · by_cases h2 : y < 128
      · rw [uvF_small _ _ h1, uvF_small _ _ h2] at h
        simp at h
        exact ⟨by omega, h.2⟩
      · rw [uvF_small _ _ h1, uvF_big _ _ (by omega)] at h
        simp at h
        omega
    · by_cases h2 : y < 128
      · rw [uvF_big _ _ (by omega), uvF_small _ _ h2] at h
        simp at h
        omega
      · rw [uvF_big _ _ (by omega), uvF_big _ _ (by omega)] at h
        simp at h
        have hp : 128 ^ (f + 1 + 1) = 128 ^ (f + 1) * 128 := Nat.pow_succ ..
        have hx' : x / 128 < 128 ^ (f + 1) := Nat.div_lt_of_lt_mul (by rw [Nat.mul_comm]; omega)
        have hy' : y / 128 < 128 ^ (f + 1) := Nat.div_lt_of_lt_mul (by rw [Nat.mul_comm]; omega)
        obtain ⟨e1, e2⟩ := ih _ _ _ _ hx' hy' h.2
        have e3 : x % 128 = y % 128 := by omega
        exact ⟨by omega, e2⟩
theorem uv_inj {x y : Nat} {r s : List Int} (hx : x < 18446744073709551616) (hy : y < 18446744073709551616) (h : uv x ++ r = uv y ++ s) : x = y ∧ r = s :=
  uvF_inj 9 x y r s (by omega) (by omega) h

/-- A string with its length before it. -/
def str (s : List Int) : List Int := uv s.length ++ s
/-- Strings, one behind the other. -/
def strsOf : List (List Int) → List Int
  | [] => []
  | s :: ss => str s ++ strsOf ss
/-- A handoff. -/
def hand (sh cf fr : Nat) (ss : List (List Int)) : List Int := uv sh ++ (uv cf ++ (uv fr ++ (uv ss.length ++ strsOf ss)))

theorem strsOf_append (a b : List (List Int)) : strsOf (a ++ b) = strsOf a ++ strsOf b := by
  induction a with
  | nil => rfl
  | cons s a ih => simp [strsOf, ih]

theorem strsOf_inj : ∀ (a b : List (List Int)) (r s : List Int), a.length = b.length → (∀ x ∈ a, x.length < 18446744073709551616) → (∀ x ∈ b, x.length < 18446744073709551616) → strsOf a ++ r = strsOf b ++ s → a = b ∧ r = s
  | [], [], r, s, _, _, _, h => ⟨rfl, h⟩
  | x :: a, y :: b, r, s, hl, ha, hb, h => by
    simp only [strsOf, str, List.append_assoc] at h
    obtain ⟨e1, e2⟩ := uv_inj (ha x (by simp)) (hb y (by simp)) h
    obtain ⟨e3, e4⟩ := List.append_inj e2 e1
    obtain ⟨e5, e6⟩ := strsOf_inj a b r s (by simpa using hl) (fun z hz => ha z (by simp [hz])) (fun z hz => hb z (by simp [hz])) e4
    exact ⟨by rw [e3, e5], e6⟩
  | [], _ :: _, _, _, hl, _, _, _ => by simp at hl
  | _ :: _, [], _, _, hl, _, _, _ => by simp at hl

theorem hand_inj {a b c a' b' c' : Nat} {ss ss' : List (List Int)} (ha : a < 18446744073709551616) (hb : b < 18446744073709551616) (hc : c < 18446744073709551616) (ha' : a' < 18446744073709551616) (hb' : b' < 18446744073709551616) (hc' : c' < 18446744073709551616)
    (hl : ss.length < 18446744073709551616) (hl' : ss'.length < 18446744073709551616) (hs : ∀ x ∈ ss, x.length < 18446744073709551616) (hs' : ∀ x ∈ ss', x.length < 18446744073709551616) (h : hand a b c ss = hand a' b' c' ss') :
    a = a' ∧ b = b' ∧ c = c' ∧ ss = ss' := by
  unfold hand at h
  obtain ⟨e1, h⟩ := uv_inj ha ha' h
  obtain ⟨e2, h⟩ := uv_inj hb hb' h
  obtain ⟨e3, h⟩ := uv_inj hc hc' h
  obtain ⟨e4, h⟩ := uv_inj hl hl' h
  have := strsOf_inj ss ss' [] [] e4 hs hs' (by simpa using h)
  exact ⟨e1, e2, e3, this.1⟩
end Go.Proofs.Qxb6614066a
