import Derived.Test.Qxb6617177aSel
namespace Go.Proofs.Qxb6617177a
open Go.RowKit

/-- it answers a bool -/
def ABool (e : Ending) : Prop := ∃ b, e = .returned (.bool b)

set_option maxRecDepth 100000 in
set_option maxHeartbeats 1000000 in
theorem zz5_any (w : World) (ao co : Option Addr) (cap ccap : Nat) (sl cl : List ByteArray) (x y z : Int) (hS : Strs w ao sl) (hl : sl.length ≤ maxLen) (hC : Strs w co cl) (hcl : cl.length ≤ maxLen) :
    Calls Try.prog 5 #[.slice ao sl.length cap, .slice co cl.length ccap, .int .i64 x, .int .i64 y, .int .i64 z] w fun e w' => ABool e ∧ w' = w := by
  have HS := hid hS
  have HC := hid hC
  clear hS hC
  unfold maxLen at hl hcl
  go_enter Try.func5, Try.ntmps5
  go_wp2
  all_goals first | (go_ret; exact ⟨⟨_, rfl⟩, rfl⟩) | skip
  go_loop [11, 12] (fun z i => ∃ (j : Nat) (q : Int), j ≤ sl.length ∧ i = .int .i64 j ∧ z = .int .i64 q) (fun _ i => sl.length - (intOf i).toNat)
  case atStart => exact ⟨0, _, Nat.zero_le _, rfl, rfl⟩
  case round =>
    obtain ⟨j, q, hj, rfl, rfl⟩ := hrel
    by_cases hlt : j < sl.length
    · obtain ⟨b, off, s, rfl, hb, hc, _, _⟩ := HS.out.at hlt
      go_wp2
      all_goals first | (go_ret; exact ⟨⟨_, rfl⟩, rfl⟩) | skip
      go_round
      case rel => exact ⟨j + 1, _, by omega, by go_num, rfl⟩
      case measure => simp [intOf]; omega
    · go_wp2
      all_goals first | (go_ret; exact ⟨⟨_, rfl⟩, rfl⟩) | skip
      go_loop [11, 13] (fun z i => ∃ (j : Nat) (q : Int), j ≤ cl.length ∧ i = .int .i64 j ∧ z = .int .i64 q) (fun _ i => cl.length - (intOf i).toNat)
      case atStart => exact ⟨0, _, Nat.zero_le _, rfl, rfl⟩
      case round =>
        obtain ⟨j', q', hj', rfl, rfl⟩ := hrel
        by_cases hlt' : j' < cl.length
        · obtain ⟨b, off, s, rfl, hb, hc, _, _⟩ := HC.out.at hlt'
          go_wp2
          all_goals first | (go_ret; exact ⟨⟨_, rfl⟩, rfl⟩) | skip
          go_round
          case rel => exact ⟨j' + 1, _, by omega, by go_num, rfl⟩
          case measure => simp [intOf]; omega
        · go_wp2
          go_ret
          exact ⟨⟨_, rfl⟩, rfl⟩

set_option maxRecDepth 100000 in
set_option maxHeartbeats 1000000 in
theorem zz9_any (w : World) (ao co : Option Addr) (cap ccap : Nat) (sl cl : List ByteArray) (hS : Strs w ao sl) (hl : sl.length ≤ maxLen) (hC : Strs w co cl) (hcl : cl.length ≤ maxLen) :
    Calls Try.prog 9 #[.slice ao sl.length cap, .slice co cl.length ccap] w fun e w' => ABool e ∧ w' = w := by
  have HS := hid hS
  have HC := hid hC
  clear hS hC
  unfold maxLen at hl hcl
  go_enter Try.func9, Try.ntmps9
  go_wp2
  all_goals first | (go_ret; exact ⟨⟨_, rfl⟩, rfl⟩) | skip
  go_loop [5, 6] (fun z i => ∃ (j : Nat) (q : Int), j ≤ sl.length ∧ i = .int .i64 j ∧ z = .int .i64 q) (fun _ i => sl.length - (intOf i).toNat)
  case atStart => exact ⟨0, _, Nat.zero_le _, rfl, rfl⟩
  case round =>
    obtain ⟨j, q, hj, rfl, rfl⟩ := hrel
    by_cases hlt : j < sl.length
    · obtain ⟨b, off, s, rfl, hb, hc, _, _⟩ := HS.out.at hlt
      go_wp2
      all_goals first | (go_ret; exact ⟨⟨_, rfl⟩, rfl⟩) | skip
      go_round
      case rel => exact ⟨j + 1, _, by omega, by go_num, rfl⟩
      case measure => simp [intOf]; omega
    · go_wp2
      all_goals first | (go_ret; exact ⟨⟨_, rfl⟩, rfl⟩) | skip
      go_loop [5, 7] (fun z i => ∃ (j : Nat) (q : Int), j ≤ cl.length ∧ i = .int .i64 j ∧ z = .int .i64 q) (fun _ i => cl.length - (intOf i).toNat)
      case atStart => exact ⟨0, _, Nat.zero_le _, rfl, rfl⟩
      case round =>
        obtain ⟨j', q', hj', rfl, rfl⟩ := hrel
        by_cases hlt' : j' < cl.length
        · obtain ⟨b, off, s, rfl, hb, hc, _, _⟩ := HC.out.at hlt'
          go_wp2
          all_goals first | (go_ret; exact ⟨⟨_, rfl⟩, rfl⟩) | skip
          go_round
          case rel => exact ⟨j' + 1, _, by omega, by go_num, rfl⟩
          case measure => simp [intOf]; omega
        · go_wp2
          go_ret
          exact ⟨⟨_, rfl⟩, rfl⟩

set_option maxRecDepth 100000 in
set_option maxHeartbeats 1000000 in
/-- stringsWithin -/
theorem within_any (w : World) (ao co : Option Addr) (cap ccap : Nat) (sl cl : List ByteArray) (bd : Int) (hS : Strs w ao sl) (hl : sl.length ≤ 4096) (hC : Strs w co cl) (hcl : cl.length ≤ 4096) :
    Calls Try.prog 6 #[.slice ao sl.length cap, .slice co cl.length ccap, .int .i64 bd] w fun e w' => ABool e ∧ w' = w := by
  have HS := hid hS
  have HC := hid hC
  clear hS hC
  go_enter Try.func6, Try.ntmps6
  go_wp2
  go_loop [7, 8] (fun z i => ∃ (j : Nat) (q : Int), j ≤ sl.length ∧ i = .int .i64 j ∧ z = .int .i64 q) (fun _ i => sl.length - (intOf i).toNat)
  case atStart => exact ⟨0, _, Nat.zero_le _, rfl, rfl⟩
  case round =>
    obtain ⟨j, q, hj, rfl, rfl⟩ := hrel
    by_cases hlt : j < sl.length
    · obtain ⟨b, off, s, rfl, hb, hc, _, _⟩ := HS.out.at hlt
      go_wp2
      all_goals first | (go_ret; exact ⟨⟨_, rfl⟩, rfl⟩) | skip
      go_round
      case rel => exact ⟨j + 1, _, by omega, by go_num, rfl⟩
      case measure => simp [intOf]; omega
    · go_wp2
      go_loop [7, 9] (fun z i => ∃ (j : Nat) (q : Int), j ≤ cl.length ∧ i = .int .i64 j ∧ z = .int .i64 q) (fun _ i => cl.length - (intOf i).toNat)
      case atStart => exact ⟨0, _, Nat.zero_le _, rfl, rfl⟩
      case round =>
        obtain ⟨j', q', hj', rfl, rfl⟩ := hrel
        by_cases hlt' : j' < cl.length
        · obtain ⟨b, off, s, rfl, hb, hc, _, _⟩ := HC.out.at hlt'
          go_wp2
          all_goals first | (go_ret; exact ⟨⟨_, rfl⟩, rfl⟩) | skip
          go_round
          case rel => exact ⟨j' + 1, _, by omega, by go_num, rfl⟩
          case measure => simp [intOf]; omega
        · go_wp2
          go_ret
          exact ⟨⟨_, rfl⟩, rfl⟩

/-- it answers whether c is in the list -/
def Has (c : ByteArray) (sl : List ByteArray) (e : Ending) : Prop := ∃ b : Bool, e = .returned (.bool b) ∧ (b = true ↔ c ∈ sl)

set_option maxRecDepth 100000 in
set_option maxHeartbeats 400000 in
/-- hasName -/
theorem has_any (w : World) (ao : Option Addr) (cap : Nat) (sl : List ByteArray) (c : ByteArray) (hS : Strs w ao sl) (hl : sl.length ≤ 1000000) :
    Calls Try.prog 10 #[.slice ao sl.length cap, .string c] w fun e w' => Has c sl e ∧ w' = w := by
  have HS := hid hS
  clear hS
  go_enter Try.func10, Try.ntmps10
  go_wp2
  go_loop [5] (fun i => ∃ k : Nat, k ≤ sl.length ∧ i = .int .i64 k ∧ Hid (∀ t ∈ sl.take k, ¬ (t = c))) (fun i => sl.length - (intOf i).toNat)
  case atStart => exact ⟨0, Nat.zero_le _, rfl, by unfold Hid; simp⟩
  case round =>
    obtain ⟨k, hk, rfl, HN⟩ := hrel
    by_cases hlt : k < sl.length
    · obtain ⟨b, off, s, rfl, hb, hc, hs, hz⟩ := HS.out.at hlt
      have Hs := hid hs
      clear hs
      by_cases e : s = c
      · have hq : (s.toList == c.toList) = true := (Lib.bytes_beq_iff s c).2 e
        have HE := hid e
        clear e
        go_wp2
        go_ret
        exact ⟨⟨_, rfl, ⟨fun _ => HE.out ▸ List.mem_of_getElem? Hs.out, fun _ => rfl⟩⟩, rfl⟩
      · have hq : (s.toList == c.toList) = false := (Lib.bytes_beq_false_iff s c).2 e
        have HN' : Hid (∀ t ∈ sl.take (k + 1), ¬ (t = c)) := no_take_succ HN.out Hs.out e
        clear e
        go_wp2
        go_round
        case rel => exact ⟨k + 1, by omega, by go_num, HN'⟩
        case measure => simp [intOf]; omega
    · have hkl : k = sl.length := by omega
      subst hkl
      go_wp2
      go_ret
      exact ⟨⟨_, rfl, ⟨fun h => (by cases h), fun h => absurd rfl (HN.out c (by rw [List.take_length]; exact h))⟩⟩, rfl⟩
end Go.Proofs.Qxb6617177a
