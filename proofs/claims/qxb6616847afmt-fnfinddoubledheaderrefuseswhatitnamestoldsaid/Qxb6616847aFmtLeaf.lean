import Derived.Test.Qxb6616847aFmtRows
import Derived.Test.Qxb6616847aFmtPlain
import Derived.Test.Qxb6616847aFmtMem
import Derived.WalkKit
import Derived.WalkSmall
import Derived.Lib.SlicesS
namespace Go.Proofs.Qxb6616847aFmt
open Go.RowKit

theorem hid {p : Prop} (h : p) : Hid p := h

/-- A slice of strings that lies in w. -/
def Strs (w : World) (ao : Option Addr) (sl : List ByteArray) : Prop :=
  (∀ j, j < sl.length → ∃ b off, ao = some ⟨b, off, Option.none⟩ ∧ b < w.heap.size ∧ w.cell? ⟨b, off + j, Option.none⟩ = some (.string (sl.getD j ByteArray.empty))) ∧ ∀ s ∈ sl, s.size ≤ maxLen
theorem Strs.below {w w' : World} {ao : Option Addr} {sl : List ByteArray} (h : Strs w ao sl) (f : Below w.heap.size w w') : Strs w' ao sl := by
  refine ⟨fun j hj => ?_, h.2⟩
  obtain ⟨b, off, h1, h2, h3⟩ := h.1 j hj
  exact ⟨b, off, h1, Nat.lt_of_lt_of_le h2 f.size, (f.cell (by exact h2)).trans h3⟩
theorem Strs.at {w : World} {ao : Option Addr} {sl : List ByteArray} (h : Strs w ao sl) {j : Nat} (hj : j < sl.length) :
    ∃ b off s, ao = some ⟨b, off, Option.none⟩ ∧ b < w.heap.size ∧ w.cell? ⟨b, off + j, Option.none⟩ = some (.string s) ∧ sl[j]? = some s ∧ s.size ≤ maxLen := by
  obtain ⟨b, off, h1, h2, h3⟩ := h.1 j hj
  have e : sl.getD j ByteArray.empty = sl[j] := by simp [List.getD, hj]
  exact ⟨b, off, sl[j], h1, h2, by rw [h3, e], List.getElem?_eq_getElem hj, h.2 _ (List.getElem_mem hj)⟩

theorem not_take_succ {l : List ByteArray} {c s : ByteArray} {j : Nat} (h : c ∉ l.take j) (hs : l[j]? = some s) (hne : s ≠ c) : c ∉ l.take (j + 1) := by
  obtain ⟨hj, e⟩ := List.getElem?_eq_some_iff.1 hs
  rw [List.take_succ_eq_append_getElem hj, e]
  simp only [List.mem_append, List.mem_singleton, not_or]
  exact ⟨h, fun e => hne e.symm⟩

set_option maxRecDepth 100000 in
set_option maxHeartbeats 400000 in
/-- slices.Index at []string -/
theorem index_any (w : World) (ao : Option Addr) (cap : Nat) (sl : List ByteArray) (c : ByteArray) (hS : Strs w ao sl) (hl : sl.length ≤ 1000000) :
    Calls Tryf.prog 19 #[.slice ao sl.length cap, .string c] w fun e w' => ∃ r : Int, e = .returned (.int .i64 r) ∧ IsF sl c r ∧ w' = w := by
  have HS := hid hS
  clear hS
  go_enter Tryf.func19, Tryf.ntmps19
  go_wp2
  go_loop [8] (fun i => ∃ k : Nat, k ≤ sl.length ∧ i = .int .i64 k ∧ Hid (c ∉ sl.take k)) (fun i => sl.length - (intOf i).toNat)
  case atStart => exact ⟨0, Nat.zero_le _, rfl, by unfold Hid; simp⟩
  case round =>
    obtain ⟨k, hk, rfl, HN⟩ := hrel
    by_cases hlt : k < sl.length
    · obtain ⟨b, off, s, rfl, hb, hc, hs, hz⟩ := HS.out.at hlt
      have Hs := hid hs
      clear hs
      by_cases e : s = c
      · have hq : (c.toList == s.toList) = true := (Lib.bytes_beq_iff c s).2 e.symm
        have HE := hid e
        clear e
        go_wp2
        go_ret
        exact ⟨_, rfl, Or.inr ⟨k, rfl, by rw [Hs.out, HE.out], HN.out⟩, rfl⟩
      · have hq : (c.toList == s.toList) = false := (Lib.bytes_beq_false_iff c s).2 (fun h => e h.symm)
        have HN' : Hid (c ∉ sl.take (k + 1)) := not_take_succ HN.out Hs.out e
        clear e
        go_wp2
        go_round
        case rel => exact ⟨k + 1, by omega, by go_num, HN'⟩
        case measure => simp [intOf]; omega
    · have hkl : k = sl.length := by omega
      subst hkl
      go_wp2
      go_ret
      exact ⟨_, rfl, Or.inl ⟨rfl, by have := HN.out; rwa [List.take_length] at this⟩, rfl⟩

set_option maxRecDepth 100000 in
set_option maxHeartbeats 400000 in
/-- slices.Contains at []string -/
theorem contains_any (w : World) (ao : Option Addr) (cap : Nat) (sl : List ByteArray) (c : ByteArray) (hS : Strs w ao sl) (hl : sl.length ≤ 1000000) :
    Calls Tryf.prog 20 #[.slice ao sl.length cap, .string c] w fun e w' => ∃ b : Bool, e = .returned (.bool b) ∧ (b = true ↔ c ∈ sl) ∧ w' = w := by
  have HS := hid hS
  clear hS
  go_enter Tryf.func20, Tryf.ntmps20
  go_wp2_with fail
  refine (index_any w ao cap sl c HS.out hl).mono ?_
  rintro e w' ⟨r, rfl, hr, rfl⟩
  have HR := hid hr
  clear hr
  go_wp2_with fail
  go_ret
  exact ⟨_, rfl, by rw [decide_eq_true_iff]; exact isF_nonneg HR.out, rfl⟩

set_option maxRecDepth 100000 in
set_option maxHeartbeats 400000 in
/-- zzFirstAt, where at is the first place -/
theorem firstAt_any (w : World) (ao : Option Addr) (cap : Nat) (sl : List ByteArray) (c : ByteArray) (r : Int) (hS : Strs w ao sl) (hl : sl.length ≤ 1000000) (hF : IsF sl c r) :
    Calls Tryf.prog 12 #[.slice ao sl.length cap, .string c, .int .i64 r] w fun e w' => e = .returned (.bool true) ∧ w' = w := by
  have HS := hid hS
  clear hS
  have key : ∀ (n : Nat), n ≤ sl.length → c ∉ sl.take n → ∀ j, j < n → ∃ b off s, ao = some ⟨b, off, Option.none⟩ ∧ w.cell? ⟨b, off + j, Option.none⟩ = some (.string s) ∧ (s.toList == c.toList) = false := by
    intro n hn hc j hj
    obtain ⟨b, off, s, h1, _, h3, h4, _⟩ := HS.out.at (j := j) (by omega)
    refine ⟨b, off, s, h1, h3, (Lib.bytes_beq_false_iff s c).2 (fun e => hc ?_)⟩
    rw [← e]
    exact List.mem_of_getElem? (by rw [List.getElem?_take_of_lt hj]; exact h4)
  rcases hF with ⟨rfl, h2⟩ | ⟨k, rfl, h2, h3⟩
  · have HK := hid (key sl.length (Nat.le_refl _) (by rw [List.take_length]; exact h2))
    clear key h2
    go_enter Tryf.func12, Tryf.ntmps12
    go_wp2
    go_loop [8] (fun i => ∃ j : Nat, j ≤ sl.length ∧ i = .int .i64 j) (fun i => sl.length - (intOf i).toNat)
    case atStart => exact ⟨0, Nat.zero_le _, rfl⟩
    case round =>
      obtain ⟨j, hj, rfl⟩ := hrel
      by_cases hlt : j < sl.length
      · obtain ⟨b, off, s, rfl, hc, hq⟩ := HK.out j hlt
        go_wp2
        go_round
        case rel => exact ⟨j + 1, by omega, by go_num⟩
        case measure => simp [intOf]; omega
      · go_wp2
        go_ret
        exact ⟨rfl, rfl⟩
  · have hk := (List.getElem?_eq_some_iff.1 h2).1
    have HK := hid (key k (by omega) h3)
    obtain ⟨b, off, s, rfl, _, hcs, hs, _⟩ := HS.out.at hk
    have hsc : s = c := by rw [h2] at hs; simpa using hs.symm
    subst hsc
    clear key h2 h3 hs
    go_enter Tryf.func12, Tryf.ntmps12
    go_wp2
    go_loop [8] (fun i => ∃ j : Nat, j ≤ k ∧ i = .int .i64 j) (fun i => k - (intOf i).toNat)
    case atStart => exact ⟨0, Nat.zero_le _, rfl⟩
    case round =>
      obtain ⟨j, hj, rfl⟩ := hrel
      by_cases hlt : j < k
      · obtain ⟨b', off', s', e1, hc, hq⟩ := HK.out j hlt
        obtain ⟨rfl, rfl⟩ : b = b' ∧ off = off' := by simpa using e1
        clear e1
        go_wp2
        go_round
        case rel => exact ⟨j + 1, by omega, by go_num⟩
        case measure => simp [intOf]; omega
      · go_wp2
        go_ret
        exact ⟨rfl, rfl⟩

theorem cn_take_succ {l : List ByteArray} {c s : ByteArray} {j : Nat} (hs : l[j]? = some s) : cn c (l.take (j + 1)) = cn c (l.take j) + (if s = c then 1 else 0) := by
  obtain ⟨hj, e⟩ := List.getElem?_eq_some_iff.1 hs
  rw [List.take_succ_eq_append_getElem hj, e, cn_append]
  simp [cn]

set_option maxRecDepth 100000 in
set_option maxHeartbeats 400000 in
/-- zzCount -/
theorem count_any (w : World) (ao : Option Addr) (cap : Nat) (sl : List ByteArray) (c : ByteArray) (hS : Strs w ao sl) (hl : sl.length ≤ 1000000) :
    Calls Tryf.prog 13 #[.slice ao sl.length cap, .string c] w fun e w' => e = .returned (.int .i64 (cn c sl)) ∧ w' = w := by
  have HS := hid hS
  clear hS
  go_enter Tryf.func13, Tryf.ntmps13
  go_wp2
  go_loop [5, 6] (fun k i => ∃ j : Nat, j ≤ sl.length ∧ i = .int .i64 j ∧ k = .int .i64 (cn c (sl.take j))) (fun _ i => sl.length - (intOf i).toNat)
  case atStart => exact ⟨0, Nat.zero_le _, rfl, by simp [cn]⟩
  case round =>
    obtain ⟨j, hj, rfl, rfl⟩ := hrel
    have hcl : cn c (sl.take j) ≤ j := by have := cn_le c (sl.take j); simp at this; omega
    by_cases hlt : j < sl.length
    · obtain ⟨b, off, s, rfl, hb, hc, hs, hz⟩ := HS.out.at hlt
      have HN := hid (cn_take_succ (c := c) hs)
      clear hs
      by_cases e : s = c
      · have hq : (s.toList == c.toList) = true := (Lib.bytes_beq_iff s c).2 e
        rw [if_pos e] at HN
        clear e
        generalize cn c (sl.take j) = q at *
        go_wp2
        go_round
        case rel => exact ⟨j + 1, by omega, by go_num, by rw [HN.out]; go_num⟩
        case measure => simp [intOf]; omega
      · have hq : (s.toList == c.toList) = false := (Lib.bytes_beq_false_iff s c).2 e
        rw [if_neg e] at HN
        clear e
        generalize cn c (sl.take j) = q at *
        go_wp2
        go_round
        case rel => exact ⟨j + 1, by omega, by go_num, by rw [HN.out]; go_num⟩
        case measure => simp [intOf]; omega
    · have hjl : j = sl.length := by omega
      subst hjl
      rw [List.take_length]
      go_wp2
      go_ret
      exact ⟨rfl, rfl⟩
end Go.Proofs.Qxb6616847aFmt
