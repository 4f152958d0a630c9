/-! Plain mathematics: the n-th day of a kind among the days i, i+1, .., i+d-1. No Go in sight. -/
namespace Go.Proofs.Qxb6616808a

def nthF (D : Nat → Bool) (n : Int) : Nat → Nat → Nat → Int × Int
  | 0, _, f => (-1, (f : Int))
  | d + 1, i, f => if D i = true then (if (f : Int) + 1 = n then ((i : Int), n) else nthF D n d (i + 1) (f + 1)) else nthF D n d (i + 1) f

def cnt (D : Nat → Bool) : Nat → Nat → Nat
  | 0, _ => 0
  | d + 1, i => (if D i = true then 1 else 0) + cnt D d (i + 1)

theorem cnt_add (D : Nat → Bool) : ∀ (a b i : Nat), cnt D (a + b) i = cnt D a i + cnt D b (i + a)
  | 0, b, i => by simp [cnt]
  | a + 1, b, i => by
    have ih := cnt_add D a b (i + 1)
    rw [show a + 1 + b = (a + b) + 1 by omega]
    simp only [cnt, ih]
    rw [show i + 1 + a = i + (a + 1) by omega]
    omega

theorem cnt_le (D : Nat → Bool) : ∀ (d i : Nat), cnt D d i ≤ d
  | 0, _ => by simp [cnt]
  | d + 1, i => by
    have := cnt_le D d (i + 1)
    simp only [cnt]
    split <;> omega

theorem cnt_succ (D : Nat → Bool) (d i : Nat) : cnt D (d + 1) i = cnt D d i + (if D (i + d) = true then 1 else 0) := by
  rw [cnt_add D d 1 i]
  simp [cnt]

/-- What nthF answers: the day j at which the n-th is met; or -1 and the count. -/
theorem nthF_spec (D : Nat → Bool) (n : Int) : ∀ (d i f : Nat),
    (∃ j, i ≤ j ∧ j < i + d ∧ D j = true ∧ (f : Int) + (cnt D (j - i) i : Int) + 1 = n ∧ nthF D n d i f = ((j : Int), n)) ∨
    (nthF D n d i f = (-1, (f : Int) + (cnt D d i : Int)) ∧ (n ≤ (f : Int) ∨ (f : Int) + (cnt D d i : Int) < n))
  | 0, i, f => by
    right
    simp [nthF, cnt]
    omega
  | d + 1, i, f => by
    by_cases hD : D i = true
    · by_cases hn : (f : Int) + 1 = n
      · left
        refine ⟨i, Nat.le_refl _, by omega, hD, by simp [cnt]; omega, ?_⟩
        simp [nthF, hD, hn]
      · have e : nthF D n (d + 1) i f = nthF D n d (i + 1) (f + 1) := by simp [nthF, hD, hn]
        rw [e]
        rcases nthF_spec D n d (i + 1) (f + 1) with ⟨j, h1, h2, h3, h4, h5⟩ | ⟨h1, h2⟩
        · left
          refine ⟨j, by omega, by omega, h3, ?_, h5⟩
          rw [show j - i = (j - (i + 1)) + 1 by omega]
          simp only [cnt, hD, if_true]
          omega
        · right
          rw [h1]
          simp only [cnt, hD, if_true]
          refine ⟨by congr 1; omega, by omega⟩
    · have e : nthF D n (d + 1) i f = nthF D n d (i + 1) f := by simp [nthF, hD]
      rw [e]
      rcases nthF_spec D n d (i + 1) f with ⟨j, h1, h2, h3, h4, h5⟩ | ⟨h1, h2⟩
      · left
        refine ⟨j, by omega, by omega, h3, ?_, h5⟩
        rw [show j - i = (j - (i + 1)) + 1 by omega]
        simp only [cnt, hD]
        simp only [if_false, Nat.zero_add, Bool.false_eq_true]
        omega
      · right
        rw [h1]
        simp only [cnt, hD]
        simp only [if_false, Nat.zero_add, Bool.false_eq_true]
        exact ⟨trivial, by omega⟩

/-- two days with the same rank are one -/
theorem rank_inj (D : Nat → Bool) (i j k : Nat) (hj : i ≤ j) (hk : i ≤ k) (Dj : D j = true) (Dk : D k = true) (h : cnt D (j - i) i = cnt D (k - i) i) : j = k := by
  have key : ∀ x y : Nat, i ≤ x → x < y → D x = true → cnt D (x - i) i < cnt D (y - i) i := by
    intro x y hx hxy Dx
    have e : y - i = (x - i + 1) + (y - x - 1) := by omega
    rw [e, cnt_add D (x - i + 1) (y - x - 1) i, cnt_succ, show i + (x - i) = x by omega, if_pos Dx]
    omega
  rcases Nat.lt_trichotomy j k with h1 | h1 | h1
  · have := key j k hj h1 Dj; omega
  · exact h1
  · have := key k j hk h1 Dk; omega

/-- from outside: if the day j has the rank n, nthF answers it. -/
theorem nthF_hit (D : Nat → Bool) (n : Int) (d i j : Nat) (h1 : i ≤ j) (h2 : j < i + d) (h3 : D j = true) (h4 : (cnt D (j - i) i : Int) + 1 = n) : nthF D n d i 0 = ((j : Int), n) := by
  rcases nthF_spec D n d i 0 with ⟨k, q1, q2, q3, q4, q5⟩ | ⟨_, q⟩
  · have : k = j := rank_inj D i k j q1 h1 q3 h3 (by simp at q4; omega)
    subst this
    exact q5
  · exfalso
    have e : d = (j - i) + 1 + (i + d - j - 1) := by omega
    have c : cnt D d i = cnt D (j - i) i + 1 + cnt D (i + d - j - 1) (i + (j - i + 1)) := by
      conv => lhs; rw [e]
      rw [cnt_add, cnt_succ, show i + (j - i) = j by omega, if_pos h3]
    simp at q
    omega

theorem nthF_miss (D : Nat → Bool) (n : Int) (d i : Nat) (h : n ≤ 0 ∨ (cnt D d i : Int) < n) : nthF D n d i 0 = (-1, (cnt D d i : Int)) := by
  rcases nthF_spec D n d i 0 with ⟨k, q1, q2, q3, q4, q5⟩ | ⟨q, _⟩
  · exfalso
    have e : d = (k - i) + 1 + (i + d - k - 1) := by omega
    have c : cnt D d i = cnt D (k - i) i + 1 + cnt D (i + d - k - 1) (i + (k - i + 1)) := by
      conv => lhs; rw [e]
      rw [cnt_add, cnt_succ, show i + (k - i) = k by omega, if_pos q3]
    simp at q4
    omega
  · simpa using q
end Go.Proofs.Qxb6616808a
