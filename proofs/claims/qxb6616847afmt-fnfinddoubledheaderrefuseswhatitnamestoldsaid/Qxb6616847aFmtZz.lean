import Derived.Test.Qxb6616847aFmtLeaf
namespace Go.Proofs.Qxb6616847aFmt
open Go.RowKit

/-- it answers a bool -/
def ABool (e : Ending) : Prop := ∃ b, e = .returned (.bool b)

set_option maxRecDepth 100000 in
set_option maxHeartbeats 1000000 in
theorem zz6_any (w : World) (ao : Option Addr) (cap : Nat) (sl : List ByteArray) (c x : ByteArray) (p : Int) (hS : Strs w ao sl) (hl : sl.length ≤ maxLen) :
    Calls Tryf.prog 6 #[.slice ao sl.length cap, .string c, .int .i64 p, .string x] w fun e w' => ABool e ∧ w' = w := by
  have HS := hid hS
  clear hS
  unfold maxLen at hl
  by_cases h1 : 1048576 < sl.length
  · go_enter Tryf.func6, Tryf.ntmps6
    go_wp2
    go_ret
    exact ⟨⟨_, rfl⟩, rfl⟩
  · go_enter Tryf.func6, Tryf.ntmps6
    go_wp2
    go_loop [9, 10] (fun z i => ∃ (j : Nat) (q : Int), j ≤ sl.length ∧ i = .int .i64 j ∧ z = .int .i64 q) (fun _ i => sl.length - (intOf i).toNat)
    case atStart => exact ⟨0, _, Nat.zero_le _, rfl, rfl⟩
    case round =>
      obtain ⟨j, q, hj, rfl, rfl⟩ := hrel
      by_cases hlt : j < sl.length
      · obtain ⟨b, off, s, rfl, hb, hc, _, _⟩ := HS.out.at hlt
        go_wp2
        · go_ret
          exact ⟨⟨_, rfl⟩, rfl⟩
        · go_ret
          exact ⟨⟨_, rfl⟩, rfl⟩
        · go_round
          case rel => exact ⟨j + 1, _, by omega, by go_num, rfl⟩
          case measure => simp [intOf]; omega
      · go_wp2
        all_goals go_ret
        all_goals exact ⟨⟨_, rfl⟩, rfl⟩

set_option maxRecDepth 100000 in
set_option maxHeartbeats 1000000 in
theorem zz14_any (w : World) (ao : Option Addr) (cap : Nat) (sl : List ByteArray) (c x : ByteArray) (hS : Strs w ao sl) (hl : sl.length ≤ maxLen) :
    Calls Tryf.prog 14 #[.slice ao sl.length cap, .string c, .string x] w fun e w' => ABool e ∧ w' = w := by
  have HS := hid hS
  clear hS
  unfold maxLen at hl
  by_cases h1 : 1048576 < sl.length
  · go_enter Tryf.func14, Tryf.ntmps14
    go_wp2
    go_ret
    exact ⟨⟨_, rfl⟩, rfl⟩
  · go_enter Tryf.func14, Tryf.ntmps14
    go_wp2
    go_loop [7, 8] (fun z i => ∃ (j : Nat) (q : Int), j ≤ sl.length ∧ i = .int .i64 j ∧ z = .int .i64 q) (fun _ i => sl.length - (intOf i).toNat)
    case atStart => exact ⟨0, _, Nat.zero_le _, rfl, rfl⟩
    case round =>
      obtain ⟨j, q, hj, rfl, rfl⟩ := hrel
      by_cases hlt : j < sl.length
      · obtain ⟨b, off, s, rfl, hb, hc, _, _⟩ := HS.out.at hlt
        go_wp2
        · go_ret
          exact ⟨⟨_, rfl⟩, rfl⟩
        · go_ret
          exact ⟨⟨_, rfl⟩, rfl⟩
        · go_round
          case rel => exact ⟨j + 1, _, by omega, by go_num, rfl⟩
          case measure => simp [intOf]; omega
      · go_wp2
        all_goals go_ret
        all_goals exact ⟨⟨_, rfl⟩, rfl⟩

/-- a number; one within the limit says that there are few strings -/
def ANum (n : Nat) (e : Ending) : Prop := ∃ r : Int, e = .returned (.int .i64 r) ∧ (r ≤ 1048576 → n ≤ 131072)

set_option maxRecDepth 100000 in
set_option maxHeartbeats 1000000 in
/-- zzAddStrings: whatever it answers, an answer within the limit says that there are few strings -/
theorem addStr_any (w : World) (ao : Option Addr) (cap : Nat) (sl : List ByteArray) (n : Int) (hS : Strs w ao sl) (hl : sl.length ≤ maxLen) :
    Calls Tryf.prog 7 #[.int .i64 n, .slice ao sl.length cap] w fun e w' => ANum sl.length e ∧ w' = w := by
  have HS := hid hS
  clear hS
  unfold maxLen at hl
  by_cases h1 : 131072 < sl.length
  · by_cases h2 : 1048576 < n
    · go_enter Tryf.func7, Tryf.ntmps7
      go_wp2
      go_ret
      exact ⟨⟨_, rfl, by omega⟩, rfl⟩
    · go_enter Tryf.func7, Tryf.ntmps7
      go_wp2
      go_ret
      exact ⟨⟨_, rfl, by omega⟩, rfl⟩
  · have h1' : sl.length ≤ 131072 := by omega
    go_enter Tryf.func7, Tryf.ntmps7
    go_wp2
    all_goals first | (go_ret; exact ⟨⟨_, rfl, fun _ => h1'⟩, rfl⟩) | skip
    go_loop [0, 5] (fun z i => ∃ (j : Nat) (q : Int), j ≤ sl.length ∧ i = .int .i64 j ∧ z = .int .i64 q) (fun _ i => sl.length - (intOf i).toNat)
    case atStart => exact ⟨0, _, Nat.zero_le _, rfl, rfl⟩
    case round =>
      obtain ⟨j, q, hj, rfl, rfl⟩ := hrel
      by_cases hlt : j < sl.length
      · obtain ⟨b, off, s, rfl, hb, hc, _, _⟩ := HS.out.at hlt
        go_wp2
        all_goals first | (go_ret; exact ⟨⟨_, rfl, fun _ => h1'⟩, rfl⟩) | skip
        go_round
        case rel => exact ⟨j + 1, _, by omega, by go_num, rfl⟩
        case measure => simp [intOf]; omega
      · go_wp2
        go_ret
        exact ⟨⟨_, rfl, fun _ => h1'⟩, rfl⟩

set_option maxRecDepth 100000 in
set_option maxHeartbeats 1000000 in
theorem zz15_any (w : World) (ao co : Option Addr) (cap ccap : Nat) (sl cl : List ByteArray) (nm : ByteArray) (p : Int) (hS : Strs w ao sl) (hl : sl.length ≤ maxLen) (hC : Strs w co cl) (hcl : cl.length ≤ maxLen) :
    Calls Tryf.prog 15 #[.string nm, .slice ao sl.length cap, .int .i64 p, .slice co cl.length ccap] w fun e w' => ABool e ∧ w' = w := by
  have HS := hid hS
  have HC := hid hC
  clear hS hC
  unfold maxLen at hl hcl
  go_enter Tryf.func15, Tryf.ntmps15
  go_wp2
  all_goals first | (go_ret; exact ⟨⟨_, rfl⟩, rfl⟩) | skip
  go_loop [9, 10] (fun z i => ∃ (j : Nat) (q : Int), j ≤ sl.length ∧ i = .int .i64 j ∧ z = .int .i64 q) (fun _ i => sl.length - (intOf i).toNat)
  case atStart => exact ⟨0, _, Nat.zero_le _, rfl, rfl⟩
  case round =>
    obtain ⟨j, q, hj, rfl, rfl⟩ := hrel
    by_cases hlt : j < sl.length
    · obtain ⟨b, off, s, rfl, hb, hc, _, _⟩ := HS.out.at hlt
      go_wp2
      all_goals first | (go_ret; exact ⟨⟨_, rfl⟩, rfl⟩) | skip
      go_round
      case rel => exact ⟨j + 1, _, by omega, by go_num, rfl⟩
      case measure => simp [intOf]; omega
    · go_wp2
      all_goals first | (go_ret; exact ⟨⟨_, rfl⟩, rfl⟩) | skip
      go_loop [9, 11] (fun z i => ∃ (j : Nat) (q : Int), j ≤ cl.length ∧ i = .int .i64 j ∧ z = .int .i64 q) (fun _ i => cl.length - (intOf i).toNat)
      case atStart => exact ⟨0, _, Nat.zero_le _, rfl, rfl⟩
      case round =>
        obtain ⟨j', q', hj', rfl, rfl⟩ := hrel
        by_cases hlt' : j' < cl.length
        · obtain ⟨b, off, s, rfl, hb, hc, _, _⟩ := HC.out.at hlt'
          go_wp2
          all_goals first | (go_ret; exact ⟨⟨_, rfl⟩, rfl⟩) | skip
          go_round
          case rel => exact ⟨j' + 1, _, by omega, by go_num, rfl⟩
          case measure => simp [intOf]; omega
        · go_wp2
          go_ret
          exact ⟨⟨_, rfl⟩, rfl⟩
end Go.Proofs.Qxb6616847aFmt
