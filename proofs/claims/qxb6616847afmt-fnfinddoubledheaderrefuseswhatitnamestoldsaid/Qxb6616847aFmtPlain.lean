/-! Plain mathematics of first places and counts in a list of strings. No Go in sight. -/
namespace Go.Proofs.Qxb6616847aFmt

/-- r is the first place of c in l, or -1. -/
def IsF (l : List ByteArray) (c : ByteArray) (r : Int) : Prop :=
  (r = -1 ∧ c ∉ l) ∨ ∃ k : Nat, r = (k : Int) ∧ l[k]? = some c ∧ c ∉ l.take k

/-- how often c stands in l -/
def cn (c : ByteArray) : List ByteArray → Nat
  | [] => 0
  | s :: r => (if s = c then 1 else 0) + cn c r

theorem cn_append (c : ByteArray) : ∀ (a b : List ByteArray), cn c (a ++ b) = cn c a + cn c b
  | [], b => by simp [cn]
  | s :: r, b => by simp only [List.cons_append, cn, cn_append c r b]; omega

theorem cn_pos (c : ByteArray) : ∀ (l : List ByteArray), 0 < cn c l ↔ c ∈ l
  | [] => by simp [cn]
  | s :: r => by
    simp only [cn, List.mem_cons]
    have ih := cn_pos c r
    by_cases h : s = c
    · rw [if_pos h]
      exact ⟨fun _ => Or.inl h.symm, fun _ => by omega⟩
    · rw [if_neg h]
      constructor
      · intro h'; exact Or.inr (ih.1 (by omega))
      · rintro (e | e)
        · exact absurd e.symm h
        · have := ih.2 e; omega

theorem cn_zero (c : ByteArray) (l : List ByteArray) : cn c l = 0 ↔ c ∉ l := by
  rw [← cn_pos c l]; omega

theorem cn_le (c : ByteArray) : ∀ (l : List ByteArray), cn c l ≤ l.length
  | [] => by simp [cn]
  | s :: r => by have := cn_le c r; simp only [cn, List.length_cons]; split <;> omega

theorem split_at {l : List ByteArray} {k : Nat} {c : ByteArray} (h : l[k]? = some c) : l = l.take k ++ c :: l.drop (k + 1) := by
  obtain ⟨hk, e⟩ := List.getElem?_eq_some_iff.1 h
  rw [← e, ← List.drop_eq_getElem_cons hk, List.take_append_drop]

theorem isF_cn {l : List ByteArray} {c : ByteArray} {r : Int} (h : IsF l c r) : (r = -1 ∧ cn c l = 0) ∨ ∃ k : Nat, r = (k : Int) ∧ k < l.length ∧ cn c l = 1 + cn c (l.drop (k + 1)) := by
  rcases h with ⟨h1, h2⟩ | ⟨k, h1, h2, h3⟩
  · exact Or.inl ⟨h1, (cn_zero c l).2 h2⟩
  · refine Or.inr ⟨k, h1, (List.getElem?_eq_some_iff.1 h2).1, ?_⟩
    have e := split_at h2
    have : cn c l = cn c (l.take k ++ c :: l.drop (k + 1)) := by rw [← e]
    rw [this, cn_append, (cn_zero c _).2 h3]
    simp [cn]

theorem isF_bound {l : List ByteArray} {c : ByteArray} {r : Int} (h : IsF l c r) : -1 ≤ r ∧ r < l.length := by
  rcases h with ⟨h1, _⟩ | ⟨k, h1, h2, _⟩
  · omega
  · have := (List.getElem?_eq_some_iff.1 h2).1; omega

theorem isF_unique {l : List ByteArray} {c : ByteArray} {r s : Int} (h : IsF l c r) (k : IsF l c s) : r = s := by
  rcases h with ⟨h1, h2⟩ | ⟨i, h1, h2, h3⟩
  · rcases k with ⟨k1, _⟩ | ⟨j, _, k2, _⟩
    · omega
    · exact absurd (List.mem_of_getElem? k2) h2
  · rcases k with ⟨_, k2⟩ | ⟨j, k1, k2, k3⟩
    · exact absurd (List.mem_of_getElem? h2) k2
    · rcases Nat.lt_trichotomy i j with e | e | e
      · exact absurd (List.mem_of_getElem? (by rw [List.getElem?_take_of_lt e]; exact h2)) k3
      · omega
      · exact absurd (List.mem_of_getElem? (by rw [List.getElem?_take_of_lt e]; exact k2)) h3

theorem isF_nonneg {l : List ByteArray} {c : ByteArray} {r : Int} (h : IsF l c r) : 0 ≤ r ↔ c ∈ l := by
  rcases h with ⟨h1, h2⟩ | ⟨k, h1, h2, _⟩
  · constructor
    · intro; omega
    · intro h; exact absurd h h2
  · exact ⟨fun _ => List.mem_of_getElem? h2, fun _ => by omega⟩

/-- the list written twice over -/
theorem isF_double {l : List ByteArray} {c : ByteArray} {r : Int} (h : IsF l c r) : IsF (l ++ l) c r := by
  rcases h with ⟨h1, h2⟩ | ⟨k, h1, h2, h3⟩
  · exact Or.inl ⟨h1, by simp [h2]⟩
  · have hk := (List.getElem?_eq_some_iff.1 h2).1
    refine Or.inr ⟨k, h1, by rw [List.getElem?_append_left hk]; exact h2, ?_⟩
    rw [List.take_append_of_le_length (by omega)]
    exact h3

/-- x put in at p: where the first place of c then is. -/
theorem isF_insert {l : List ByteArray} {c x : ByteArray} {r : Int} (p : Nat) (hp : p ≤ l.length) (h : IsF l c r) :
    IsF (l.take p ++ x :: l.drop p) c (if x = c then (if r < 0 ∨ (p : Int) ≤ r then (p : Int) else r) else (if (p : Int) ≤ r then r + 1 else r)) := by
  have hlen : (l.take p).length = p := by simp; omega
  rcases h with ⟨h1, h2⟩ | ⟨k, h1, h2, h3⟩
  · have ht : c ∉ l.take p := fun m => h2 (List.mem_of_mem_take m)
    have hd : c ∉ l.drop p := fun m => h2 (List.mem_of_mem_drop m)
    by_cases hx : x = c
    · rw [if_pos hx, if_pos (Or.inl (by omega))]
      refine Or.inr ⟨p, rfl, ?_, ?_⟩
      · rw [List.getElem?_append_right (by omega), hlen, Nat.sub_self]; simp [hx]
      · rw [List.take_append_of_le_length (by omega), List.take_of_length_le (by omega)]; exact ht
    · rw [if_neg hx, if_neg (by omega)]
      refine Or.inl ⟨h1, ?_⟩
      simp only [List.mem_append, List.mem_cons, not_or]
      exact ⟨ht, fun e => hx e.symm, hd⟩
  · have hk := (List.getElem?_eq_some_iff.1 h2).1
    rcases Nat.lt_or_ge k p with hkp | hkp
    · -- before p
      have key : IsF (l.take p ++ x :: l.drop p) c (k : Int) := by
        refine Or.inr ⟨k, rfl, ?_, ?_⟩
        · rw [List.getElem?_append_left (by omega), List.getElem?_take_of_lt hkp]; exact h2
        · rw [List.take_append_of_le_length (by omega), List.take_take, Nat.min_eq_left (by omega)]; exact h3
      by_cases hx : x = c
      · rw [if_pos hx, if_neg (by omega), h1]; exact key
      · rw [if_neg hx, if_neg (by omega), h1]; exact key
    · have ht : c ∉ l.take p := fun m => h3 (by
        have : l.take p = (l.take k).take p := by rw [List.take_take, Nat.min_eq_left (by omega)]
        rw [this] at m; exact List.mem_of_mem_take m)
      by_cases hx : x = c
      · rw [if_pos hx, if_pos (Or.inr (by omega))]
        refine Or.inr ⟨p, rfl, ?_, ?_⟩
        · rw [List.getElem?_append_right (by omega), hlen, Nat.sub_self]; simp [hx]
        · rw [List.take_append_of_le_length (by omega), List.take_of_length_le (by omega)]; exact ht
      · rw [if_neg hx, if_pos (by omega), h1]
        refine Or.inr ⟨k + 1, by omega, ?_, ?_⟩
        · rw [List.getElem?_append_right (by omega), hlen, show k + 1 - p = (k - p) + 1 by omega, List.getElem?_cons_succ, List.getElem?_drop, show p + (k - p) = k by omega]; exact h2
        · rw [List.take_append, hlen, List.take_of_length_le (by omega), show k + 1 - p = (k - p) + 1 by omega, List.take_succ_cons]
          simp only [List.mem_append, List.mem_cons, not_or]
          refine ⟨ht, fun e => hx e.symm, fun m => h3 ?_⟩
          have e2 : l.take k = l.take p ++ (l.drop p).take (k - p) := by
            have := List.take_add (l := l) (i := p) (j := k - p)
            rw [show p + (k - p) = k by omega] at this
            exact this
          rw [e2]
          exact List.mem_append_right _ m

theorem cn_insert (l : List ByteArray) (c x : ByteArray) (p : Nat) : cn c (l.take p ++ x :: l.drop p) = (if x = c then 1 else 0) + cn c l := by
  have : cn c l = cn c (l.take p ++ l.drop p) := by rw [List.take_append_drop]
  rw [this, cn_append, cn_append]
  simp only [cn]
  omega
end Go.Proofs.Qxb6616847aFmt
