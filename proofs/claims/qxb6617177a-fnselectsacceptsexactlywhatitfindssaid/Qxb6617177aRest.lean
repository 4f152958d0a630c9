import Derived.Test.Qxb6617177aPlain
namespace Go.Proofs.Qxb6617177a
open Go.RowKit

/-- the test for an entry that selects -/
def goodB (ns : List ByteArray) (s : ByteArray) : Bool := (s.toList == star.toList) || ns.any (fun t => t.toList == s.toList)
theorem goodB_iff (ns : List ByteArray) (s : ByteArray) : goodB ns s = true ↔ Good ns s := by
  unfold goodB Good
  rw [Bool.or_eq_true, Lib.bytes_beq_iff, List.any_eq_true]
  refine or_congr Iff.rfl ⟨fun ⟨t, h1, h2⟩ => (Lib.bytes_beq_iff t s).1 h2 ▸ h1, fun h => ⟨s, h, (Lib.bytes_beq_iff s s).2 rfl⟩⟩
theorem goodB_yes {ns : List ByteArray} {s : ByteArray} (h : Good ns s) : goodB ns s = true := (goodB_iff ns s).2 h
theorem goodB_no {ns : List ByteArray} {s : ByteArray} (h : ¬ Good ns s) : goodB ns s = false := by
  cases e : goodB ns s with
  | false => rfl
  | true => exact absurd ((goodB_iff ns s).1 e) h
/-- the entries that select nothing -/
def restOf (ns sl : List ByteArray) : List ByteArray := sl.filter (fun s => !goodB ns s)
theorem rest_nil (ns : List ByteArray) : restOf ns [] = [] := rfl
theorem rest_step_no {ns sl : List ByteArray} {s : ByteArray} {i : Nat} (hs : sl[i]? = some s) (hg : ¬ Good ns s) : restOf ns (sl.take i) ++ [s] = restOf ns (sl.take (i + 1)) := by
  rw [← take_step hs]
  simp [restOf, List.filter_append, goodB_no hg]
theorem rest_step_yes {ns sl : List ByteArray} {s : ByteArray} {i : Nat} (hs : sl[i]? = some s) (hg : Good ns s) : restOf ns (sl.take i) = restOf ns (sl.take (i + 1)) := by
  rw [← take_step hs]
  simp [restOf, List.filter_append, goodB_yes hg]
theorem rest_len (ns sl : List ByteArray) : (restOf ns sl).length ≤ sl.length := List.length_filter_le _ _
theorem rest_mem {ns sl : List ByteArray} {s : ByteArray} (h : s ∈ restOf ns sl) : s ∈ sl := (List.mem_filter.1 h).1
theorem rest_no (ns sl : List ByteArray) : ¬ Sel (restOf ns sl) ns := by
  rintro ⟨s, hs, hg⟩
  have := (List.mem_filter.1 hs).2
  simp [goodB_yes hg] at this
theorem rest_lt (ns sl : List ByteArray) : Sel sl ns ↔ (restOf ns sl).length < sl.length := by
  unfold restOf
  rw [List.length_filter_lt_length_iff_exists]
  simp [Sel, goodB_iff]
theorem sel_wide (ns sl : List ByteArray) : Sel sl (ns ++ restOf ns sl) ↔ 0 < sl.length := by
  constructor
  · rintro ⟨s, hs, _⟩; exact List.length_pos_of_mem hs
  · intro h
    cases sl with
    | nil => simp at h
    | cons a t =>
      refine ⟨a, by simp, ?_⟩
      by_cases hg : Good ns a
      · rcases hg with hg | hg
        · exact .inl hg
        · exact .inr (List.mem_append_left _ hg)
      · exact .inr (List.mem_append_right _ (List.mem_filter.2 ⟨by simp, by simp [goodB_no hg]⟩))
theorem app_step {l m : List ByteArray} {s : ByteArray} {i : Nat} (hs : m[i]? = some s) : (l ++ m.take i) ++ [s] = l ++ m.take (i + 1) := by
  rw [List.append_assoc, take_step hs]
/-- the strings of a row that the call has built, empty or not -/
theorem Built.any {w0 w : World} {B : Nat} {v : Value} {gl : List ByteArray} (h : Built w0 w B v gl) (hs : ∀ s ∈ gl, s.size ≤ maxLen) : ∃ ao cap, v = .slice ao gl.length cap ∧ Hid (Strs w ao gl) := by
  rcases h.own.2 with ⟨rfl, h0⟩ | ⟨g, cap, cur, rfl, hg, _, hle, _⟩
  · rw [h0]
    obtain rfl := List.eq_nil_of_length_eq_zero h0
    exact ⟨Option.none, 0, rfl, fun j hj => absurd hj (by simp), by simp⟩
  · exact ⟨_, cap, rfl, strs_of_owns h.own rfl rfl hs⟩
/-- three rows of strings in hand; below w1 nothing has turned -/
structure St3 (w1 w : World) (lo mo ro : Option Addr) (sl ns rl : List ByteArray) : Prop where
  s : Strs w lo sl
  n : Strs w mo ns
  r : Strs w ro rl
  b : Below w1.heap.size w1 w
theorem St3.step {w1 w w' : World} {lo mo ro : Option Addr} {sl ns rl : List ByteArray} (h : St3 w1 w lo mo ro sl ns rl) (f : Below w.heap.size w w') : St3 w1 w' lo mo ro sl ns rl :=
  ⟨h.s.below f, h.n.below f, h.r.below f, h.b.trans (f.mono h.b.size)⟩
end Go.Proofs.Qxb6617177a
