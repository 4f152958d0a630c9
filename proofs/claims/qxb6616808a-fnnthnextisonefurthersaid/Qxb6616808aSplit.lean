import Derived.Test.Qxb6616808aCal
namespace Go.Proofs.Qxb6616808a
open Go.RowKit

set_option maxRecDepth 100000 in
set_option maxHeartbeats 400000 in
theorem zz5_any (ta ka : Option Addr) (tn kn tc kc : Nat) (x1 x2 x3 x4 x5 : Int) (w : World) (h1 : tn ≤ maxLen) (h2 : kn ≤ maxLen) :
    Calls Try.prog 5 #[.slice ta tn tc, .slice ka kn kc, .int .i64 x1, .int .i64 x2, .int .i64 x3, .int .i64 x4, .int .i64 x5] w fun e w' => ∃ b, e = .returned (.bool b) ∧ w' = w := by
  unfold maxLen at h1 h2
  go_enter Try.func5, Try.ntmps5
  go_wp2
  all_goals go_ret
  all_goals exact ⟨_, rfl, rfl⟩

set_option maxRecDepth 100000 in
set_option maxHeartbeats 400000 in
theorem zz10_any (ta ka : Option Addr) (tn kn tc kc : Nat) (x1 x2 x3 x4 : Int) (w : World) (h1 : tn ≤ maxLen) (h2 : kn ≤ maxLen) :
    Calls Try.prog 10 #[.slice ta tn tc, .slice ka kn kc, .int .i64 x1, .int .i64 x2, .int .i64 x3, .int .i64 x4] w fun e w' => ∃ b, e = .returned (.bool b) ∧ w' = w := by
  unfold maxLen at h1 h2
  go_enter Try.func10, Try.ntmps10
  go_wp2
  all_goals go_ret
  all_goals exact ⟨_, rfl, rfl⟩

set_option maxRecDepth 100000 in
set_option maxHeartbeats 400000 in
/-- the ways out ahead of the law proper -/
theorem split_out (ta ka : Option Addr) (tn kn tc kc : Nat) (f m e n kind : Int) (w : World) (h1 : tn ≤ maxLen) (h2 : kn ≤ maxLen)
    (h : 65536 < tn ∨ 65536 < kn ∨ tn ≠ kn ∨ f < 0 ∨ m < f ∨ e < m ∨ (tn : Int) < e) :
    Calls Try.prog 3 #[.slice ta tn tc, .slice ka kn kc, .int .i64 f, .int .i64 m, .int .i64 e, .int .i64 n, .int .i64 kind] w fun e w' => e = .returned (.bool true) ∧ Below w.heap.size w w' := by
  have H := hid h
  clear h
  go_enter Try.func3, Try.ntmps3
  go_wp2_with fail
  refine (zz5_any _ _ _ _ _ _ _ _ _ _ _ _ h1 h2).mono ?_
  rintro e w' ⟨b, rfl, rfl⟩
  unfold maxLen at h1 h2
  cases b with
  | false =>
    go_wp2_with fail
    go_ret
    exact ⟨rfl, Below.refl _ _⟩
  | true =>
    by_cases q1 : 65536 < tn
    · go_wp2_with fail
      go_ret
      exact ⟨rfl, Below.refl _ _⟩
    by_cases q2 : 65536 < kn
    · go_wp2_with fail
      go_ret
      exact ⟨rfl, Below.refl _ _⟩
    by_cases q3 : tn = kn
    · subst q3
      by_cases q4 : f < 0
      · go_wp2_with fail
        go_ret
        exact ⟨rfl, Below.refl _ _⟩
      by_cases q5 : m < f
      · go_wp2_with fail
        go_ret
        exact ⟨rfl, Below.refl _ _⟩
      by_cases q6 : e < m
      · go_wp2_with fail
        go_ret
        exact ⟨rfl, Below.refl _ _⟩
      by_cases q7 : (tn : Int) < e
      · go_wp2_with fail
        go_ret
        exact ⟨rfl, Below.refl _ _⟩
      · exfalso; have := H.out; omega
    · have q3' : ((tn : Int) != (kn : Int)) = true := by rw [bne_iff_ne]; omega
      go_wp2_with fail
      go_ret
      exact ⟨rfl, Below.refl _ _⟩

/-- block b holds the calendar's value -/
def CalAt (w : World) (b g n : Nat) : Prop :=
  b < w.heap.size ∧ w.cell? ⟨b, 0, Option.none⟩ = some (.int .u64 0) ∧ w.cell? ⟨b, 1, Option.none⟩ = some (.int .i64 0) ∧ w.cell? ⟨b, 2, Option.none⟩ = some (.pointer Option.none) ∧ w.cell? ⟨b, 3, Option.none⟩ = some (.slice (some ⟨g, 0, Option.none⟩) n n)
theorem calAt_new (w : World) (g n : Nat) : CalAt (w.alloc (.cells #[.int .u64 0, .int .i64 0, .pointer Option.none, .slice (some ⟨g, 0, Option.none⟩) n n] 30)) w.heap.size g n := by
  refine ⟨by simp, ?_, ?_, ?_, ?_⟩ <;> (rw [cell_of_row _ _ _ _ _ _ (heap_alloc_new w _)]; rfl)
theorem CalAt.below {w w' : World} {b g n : Nat} (h : CalAt w b g n) (f : Below w.heap.size w w') : CalAt w' b g n :=
  ⟨Nat.lt_of_lt_of_le h.1 f.size, (f.cell (by exact h.1)).trans h.2.1, (f.cell (by exact h.1)).trans h.2.2.1, (f.cell (by exact h.1)).trans h.2.2.2.1, (f.cell (by exact h.1)).trans h.2.2.2.2⟩
end Go.Proofs.Qxb6616808a
