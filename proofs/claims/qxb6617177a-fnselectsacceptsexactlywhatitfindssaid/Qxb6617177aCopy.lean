import Derived.Test.Qxb6617177aIns
import Derived.Deep.Cut
import Derived.Laws.CopyOwn
import Derived.Lib.SliceRun
import Derived.WalkSpells
namespace Go.Proofs.Qxb6617177a
open Go.RowKit

theorem neq_nil (w : World) (ao : Option Addr) (n c : Nat) : (binOp .neq 22 (.slice ao n c) (.slice Option.none 0 0)).run Try.prog w = .ok (.bool (!ao.isNone)) w :=
  run_neq_slice_nil_any w 22 9 ao n c 0 0 Try.underlying22
theorem Try.size9 : (Try.prog.info? 9).map (·.size) = some 1 := by kernel_rfl

/-- what a made row holds -/
theorem made_heap {w : World} {B g n : Nat} {xs : List Value} (h : w.ownsRow B 9 1 (.slice (some ⟨g, 0, Option.none⟩) n n) n xs) : w.heap[g]? = some (.cells xs.toArray 9 (0, 0)) ∧ xs.length = n := by
  obtain ⟨hl, h⟩ := h
  rcases h with ⟨h, _⟩ | ⟨g', cap, cur, hv, hg, hh, h1, h2, h3, h4⟩
  · cases h
  · injection hv with e1 e2 e3
    injection e1 with e1
    injection e1 with e1
    subst e1 e3
    refine ⟨?_, by omega⟩
    rw [hh, ← h4, List.take_of_length_le (by simp; omega)]
/-- the cells of the strings, for a copy -/
theorem copy_src {w : World} {ao : Option Addr} {sl : List ByteArray} (h : Strs w ao sl) {X : List Value} (hX : X = sl.map Value.string) : 0 < X.length → ∃ ad, ao = some ad ∧ ∀ j v, X[j]? = some v → w.cell? (ad.add j) = some v := by
  subst hX
  intro h0
  obtain ⟨b, off, s, rfl, hb, hc, hs, hz⟩ := h.at (j := 0) (by simpa using h0)
  refine ⟨_, rfl, fun j v hv => ?_⟩
  have hj : j < sl.length := by
    have := (List.getElem?_eq_some_iff.1 hv).1
    simpa using this
  obtain ⟨b', off', s', e, hb', hc', hs', hz'⟩ := h.at (j := j) hj
  injection e with e
  injection e with e1 e2
  subst e1 e2
  rw [Addr.add_lit, hc']
  rw [List.getElem?_map, hs'] at hv
  exact hv
theorem copy_one {sl : List ByteArray} {X : List Value} (hX : X = sl.map Value.string) : ∀ v ∈ X, v.oneCell' = true := by
  subst hX
  intro v hv
  obtain ⟨s, _, rfl⟩ := List.mem_map.1 hv
  rfl
theorem splice_all {α : Type} {L cs : List α} (h : cs.length = L.length) : splice L 0 cs = cs := by
  simp [splice, h]
theorem strs_of_heap {w : World} {g : Nat} {sl : List ByteArray} {X : List Value} (hX : X = sl.map Value.string) (h : w.heap[g]? = some (.cells X.toArray 9 (0, 0))) (hs : ∀ s ∈ sl, s.size ≤ maxLen) : Strs w (some ⟨g, 0, Option.none⟩) sl := by
  subst hX
  refine ⟨fun j hj => ⟨g, 0, rfl, (Array.getElem?_eq_some_iff.1 h).1, ?_⟩, hs⟩
  rw [cell_of_row _ _ _ _ _ _ h]
  simp [List.getD, hj]
end Go.Proofs.Qxb6617177a
