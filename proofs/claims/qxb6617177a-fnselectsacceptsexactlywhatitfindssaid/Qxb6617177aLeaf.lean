import Derived.Test.Qxb6617177aRows
import Derived.Test.Qxb6617177aMem
import Derived.WalkKit
import Derived.WalkSmall
import Derived.Lib.SlicesS
namespace Go.Proofs.Qxb6617177a
open Go.RowKit

theorem hid {p : Prop} (h : p) : Hid p := h

/-- A slice of strings that lies in w. -/
def Strs (w : World) (ao : Option Addr) (sl : List ByteArray) : Prop :=
  (∀ j, j < sl.length → ∃ b off, ao = some ⟨b, off, Option.none⟩ ∧ b < w.heap.size ∧ w.cell? ⟨b, off + j, Option.none⟩ = some (.string (sl.getD j ByteArray.empty))) ∧ ∀ s ∈ sl, s.size ≤ maxLen
theorem Strs.below {w w' : World} {ao : Option Addr} {sl : List ByteArray} (h : Strs w ao sl) (f : Below w.heap.size w w') : Strs w' ao sl := by
  refine ⟨fun j hj => ?_, h.2⟩
  obtain ⟨b, off, h1, h2, h3⟩ := h.1 j hj
  exact ⟨b, off, h1, Nat.lt_of_lt_of_le h2 f.size, (f.cell (by exact h2)).trans h3⟩
theorem Strs.at {w : World} {ao : Option Addr} {sl : List ByteArray} (h : Strs w ao sl) {j : Nat} (hj : j < sl.length) :
    ∃ b off s, ao = some ⟨b, off, Option.none⟩ ∧ b < w.heap.size ∧ w.cell? ⟨b, off + j, Option.none⟩ = some (.string s) ∧ sl[j]? = some s ∧ s.size ≤ maxLen := by
  obtain ⟨b, off, h1, h2, h3⟩ := h.1 j hj
  have e : sl.getD j ByteArray.empty = sl[j] := by simp [List.getD, hj]
  exact ⟨b, off, sl[j], h1, h2, by rw [h3, e], List.getElem?_eq_getElem hj, h.2 _ (List.getElem_mem hj)⟩
theorem strs_empty (w : World) (ao : Option Addr) : Strs w ao [] := ⟨fun j hj => by simp at hj, fun s hs => by simp at hs⟩
theorem strs_nil {w : World} {sl : List ByteArray} (h : Strs w Option.none sl) : sl = [] := by
  rcases sl with _ | ⟨s, r⟩
  · rfl
  · obtain ⟨b, off, h1, _⟩ := h.1 0 (by simp)
    cases h1

/-- r is 0 or more just where some string of l is good. -/
def Any (l : List ByteArray) (good : ByteArray → Prop) (r : Int) : Prop := -1 ≤ r ∧ (0 ≤ r ↔ ∃ s ∈ l, good s)

theorem no_take_succ {l : List ByteArray} {good : ByteArray → Prop} {s : ByteArray} {j : Nat} (h : ∀ t ∈ l.take j, ¬ good t) (hs : l[j]? = some s) (hne : ¬ good s) : ∀ t ∈ l.take (j + 1), ¬ good t := by
  obtain ⟨hj, e⟩ := List.getElem?_eq_some_iff.1 hs
  rw [List.take_succ_eq_append_getElem hj, e]
  intro t ht
  simp only [List.mem_append, List.mem_singleton] at ht
  rcases ht with ht | ht
  · exact h t ht
  · rw [ht]; exact hne

set_option maxRecDepth 100000 in
set_option maxHeartbeats 400000 in
/-- slices.Index at []string -/
theorem index_any (w : World) (ao : Option Addr) (cap : Nat) (sl : List ByteArray) (c : ByteArray) (hS : Strs w ao sl) (hl : sl.length ≤ 1000000) :
    Calls Try.prog 16 #[.slice ao sl.length cap, .string c] w fun e w' => ∃ r : Int, e = .returned (.int .i64 r) ∧ Any sl (fun s => s = c) r ∧ w' = w := by
  have HS := hid hS
  clear hS
  go_enter Try.func16, Try.ntmps16
  go_wp2
  go_loop [8] (fun i => ∃ k : Nat, k ≤ sl.length ∧ i = .int .i64 k ∧ Hid (∀ t ∈ sl.take k, ¬ (t = c))) (fun i => sl.length - (intOf i).toNat)
  case atStart => exact ⟨0, Nat.zero_le _, rfl, by unfold Hid; simp⟩
  case round =>
    obtain ⟨k, hk, rfl, HN⟩ := hrel
    by_cases hlt : k < sl.length
    · obtain ⟨b, off, s, rfl, hb, hc, hs, hz⟩ := HS.out.at hlt
      have Hs := hid hs
      clear hs
      by_cases e : s = c
      · have hq : (c.toList == s.toList) = true := (Lib.bytes_beq_iff c s).2 e.symm
        have HE := hid e
        clear e
        go_wp2
        go_ret
        exact ⟨_, rfl, ⟨by omega, fun _ => ⟨s, List.mem_of_getElem? Hs.out, HE.out⟩, fun _ => by omega⟩, rfl⟩
      · have hq : (c.toList == s.toList) = false := (Lib.bytes_beq_false_iff c s).2 (fun h => e h.symm)
        have HN' : Hid (∀ t ∈ sl.take (k + 1), ¬ (t = c)) := no_take_succ HN.out Hs.out e
        clear e
        go_wp2
        go_round
        case rel => exact ⟨k + 1, by omega, by go_num, HN'⟩
        case measure => simp [intOf]; omega
    · have hkl : k = sl.length := by omega
      subst hkl
      go_wp2
      go_ret
      refine ⟨_, rfl, ⟨by omega, fun h => by omega, fun ⟨s, h1, h2⟩ => ?_⟩, rfl⟩
      exact absurd h2 (HN.out s (by rw [List.take_length]; exact h1))

set_option maxRecDepth 100000 in
set_option maxHeartbeats 400000 in
/-- slices.Contains at []string -/
theorem contains_any (w : World) (ao : Option Addr) (cap : Nat) (sl : List ByteArray) (c : ByteArray) (hS : Strs w ao sl) (hl : sl.length ≤ 1000000) :
    Calls Try.prog 14 #[.slice ao sl.length cap, .string c] w fun e w' => ∃ b : Bool, e = .returned (.bool b) ∧ (b = true ↔ c ∈ sl) ∧ w' = w := by
  have HS := hid hS
  clear hS
  go_enter Try.func14, Try.ntmps14
  go_wp2_with fail
  refine (index_any w ao cap sl c HS.out hl).mono ?_
  rintro e w' ⟨r, rfl, hr, rfl⟩
  have HR := hid hr
  clear hr
  go_wp2_with fail
  go_ret
  exact ⟨_, rfl, by rw [decide_eq_true_iff, HR.out.2]; exact ⟨fun ⟨s, h1, h2⟩ => h2 ▸ h1, fun h => ⟨c, h, rfl⟩⟩, rfl⟩

def star : ByteArray := ⟨#[42]⟩
theorem star_list : star.toList = [42] := by rw [ByteArray.toList_eq]; rfl
/-- what selects: the star, or one of the names -/
def Good (ns : List ByteArray) (s : ByteArray) : Prop := s = star ∨ s ∈ ns

set_option maxRecDepth 100000 in
set_option maxHeartbeats 400000 in
/-- the closure in selects: bx: the block that holds names -/
theorem clos_any (w : World) (no : Option Addr) (ncap : Nat) (ns : List ByteArray) (s : ByteArray) (bx : Nat) (hN : Strs w no ns) (hl : ns.length ≤ 1000000) (hb : w.cell? ⟨bx, 0, Option.none⟩ = some (.slice no ns.length ncap)) :
    Calls Try.prog 13 #[.string s, .pointer (some ⟨bx, 0, Option.none⟩)] w fun e w' => ∃ b : Bool, e = .returned (.bool b) ∧ (b = true ↔ Good ns s) ∧ w' = w := by
  have HN := hid hN
  clear hN
  by_cases hs : s = star
  · have hq : (s.toList == [42]) = true := by have := (Lib.bytes_beq_iff s star).2 hs; rwa [star_list] at this
    have HS := hid hs
    clear hs
    go_enter Try.func13, Try.ntmps13
    go_wp2_with fail
    go_ret
    exact ⟨_, rfl, ⟨fun _ => Or.inl HS.out, fun _ => rfl⟩, rfl⟩
  · have hq : (s.toList == [42]) = false := by have := (Lib.bytes_beq_false_iff s star).2 hs; rwa [star_list] at this
    have HS := hid hs
    clear hs
    go_enter Try.func13, Try.ntmps13
    go_wp2_with fail
    refine (contains_any w no ncap ns s HN.out hl).mono ?_
    rintro e w' ⟨b, rfl, hb2, rfl⟩
    have HB := hid hb2
    clear hb2
    go_wp2_with fail
    go_ret
    exact ⟨b, rfl, by rw [HB.out]; exact ⟨fun h => Or.inr h, fun h => h.elim (fun e => absurd e HS.out) (fun e => e)⟩, rfl⟩
end Go.Proofs.Qxb6617177a
