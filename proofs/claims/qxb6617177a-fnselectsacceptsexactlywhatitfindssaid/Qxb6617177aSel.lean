import Derived.Test.Qxb6617177aLeaf
namespace Go.Proofs.Qxb6617177a
open Go.RowKit

set_option maxRecDepth 100000 in
set_option maxHeartbeats 400000 in
/-- slices.IndexFunc at the closure of selects -/
theorem indexF_any (w : World) (ao no : Option Addr) (cap ncap bx : Nat) (sl ns : List ByteArray) (hS : Strs w ao sl) (hl : sl.length ≤ 1000000) (hN : Strs w no ns) (hnl : ns.length ≤ 1000000) (hb : w.cell? ⟨bx, 0, Option.none⟩ = some (.slice no ns.length ncap)) :
    Calls Try.prog 15 #[.slice ao sl.length cap, .func (.func 13) #[] #[.pointer (some ⟨bx, 0, Option.none⟩)]] w fun e w' => ∃ r : Int, e = .returned (.int .i64 r) ∧ Any sl (Good ns) r ∧ w' = w := by
  have HS := hid hS
  have HN := hid hN
  have HX := hid hb
  clear hS hN hb
  go_enter Try.func15, Try.ntmps15
  go_wp2_with fail
  go_loop [8] (fun i => ∃ k : Nat, k ≤ sl.length ∧ i = .int .i64 k ∧ Hid (∀ t ∈ sl.take k, ¬ Good ns t)) (fun i => sl.length - (intOf i).toNat)
  case atStart => exact ⟨0, Nat.zero_le _, rfl, by unfold Hid; simp⟩
  case round =>
    obtain ⟨k, hk, rfl, HK⟩ := hrel
    by_cases hlt : k < sl.length
    · obtain ⟨b, off, s, rfl, hb, hc, hs, hz⟩ := HS.out.at hlt
      have Hs := hid hs
      clear hs
      go_wp2_with fail
      refine (clos_any w no ncap ns s bx HN.out hnl HX.out).mono ?_
      rintro e w' ⟨bb, rfl, hbb, rfl⟩
      have HB := hid hbb
      clear hbb
      cases bb with
      | true =>
        have HG := hid (HB.out.1 rfl)
        clear HB
        go_wp2_with fail
        go_ret
        exact ⟨_, rfl, ⟨by omega, fun _ => ⟨s, List.mem_of_getElem? Hs.out, HG.out⟩, fun _ => by omega⟩, rfl⟩
      | false =>
        have HK' : Hid (∀ t ∈ sl.take (k + 1), ¬ Good ns t) := no_take_succ HK.out Hs.out (fun h => by have := HB.out.2 h; cases this)
        go_wp2_with fail
        go_round
        case rel => exact ⟨k + 1, by omega, by go_num, HK'⟩
        case measure => simp [intOf]; omega
    · have hkl : k = sl.length := by omega
      subst hkl
      go_wp2_with fail
      go_ret
      refine ⟨_, rfl, ⟨by omega, fun h => by omega, fun ⟨s, h1, h2⟩ => ?_⟩, rfl⟩
      exact absurd h2 (HK.out s (by rw [List.take_length]; exact h1))

/-- a list selects names -/
def Sel (sl ns : List ByteArray) : Prop := ∃ s ∈ sl, Good ns s
/-- it answers whether -/
def Says (sl ns : List ByteArray) (e : Ending) : Prop := ∃ b : Bool, e = .returned (.bool b) ∧ (b = true ↔ Sel sl ns)

set_option maxRecDepth 100000 in
set_option maxHeartbeats 400000 in
/-- slices.ContainsFunc at the closure of selects -/
theorem containsF_any (w : World) (ao no : Option Addr) (cap ncap bx : Nat) (sl ns : List ByteArray) (hS : Strs w ao sl) (hl : sl.length ≤ 1000000) (hN : Strs w no ns) (hnl : ns.length ≤ 1000000) (hb : w.cell? ⟨bx, 0, Option.none⟩ = some (.slice no ns.length ncap)) :
    Calls Try.prog 12 #[.slice ao sl.length cap, .func (.func 13) #[] #[.pointer (some ⟨bx, 0, Option.none⟩)]] w fun e w' => Says sl ns e ∧ w' = w := by
  have HS := hid hS
  have HN := hid hN
  have HX := hid hb
  clear hS hN hb
  go_enter Try.func12, Try.ntmps12
  go_wp2_with fail
  refine (indexF_any w ao no cap ncap bx sl ns HS.out hl HN.out hnl HX.out).mono ?_
  rintro e w' ⟨r, rfl, hr, rfl⟩
  have HR := hid hr
  clear hr
  go_wp2_with fail
  go_ret
  exact ⟨⟨_, rfl, by rw [decide_eq_true_iff]; exact HR.out.2⟩, rfl⟩

set_option maxRecDepth 100000 in
set_option maxHeartbeats 400000 in
/-- selects -/
theorem selects_any (w : World) (ao no : Option Addr) (cap ncap : Nat) (sl ns : List ByteArray) (hS : Strs w ao sl) (hl : sl.length ≤ 1000000) (hN : Strs w no ns) (hnl : ns.length ≤ 1000000) :
    Calls Try.prog 11 #[.slice ao sl.length cap, .slice no ns.length ncap] w fun e w' => Says sl ns e ∧ Below w.heap.size w w' := by
  have HS := hid hS
  have HN := hid hN
  clear hS hN
  go_enter Try.func11, Try.ntmps11
  go_wp2_with fail
  have hB : Below w.heap.size w (w.alloc (.cells #[.slice no ns.length ncap] 22)) := (Below.refl _ _).alloc (Nat.le_refl _) _
  refine (containsF_any (w.alloc (.cells #[.slice no ns.length ncap] 22)) ao no cap ncap w.heap.size sl ns (HS.out.below hB) hl (HN.out.below hB) hnl (cell_of_one (heap_alloc_new w _))).mono ?_
  rintro e w' ⟨⟨b, rfl, hb⟩, rfl⟩
  have HB := hid hb
  clear hb hB
  go_wp2_with fail
  go_ret
  exact ⟨⟨b, rfl, HB.out⟩, (Below.refl _ _).alloc (Nat.le_refl _) _⟩

set_option maxRecDepth 100000 in
set_option maxHeartbeats 400000 in
/-- ZZselects -/
theorem zsel_any (w : World) (ao no : Option Addr) (cap ncap n m : Nat) (sl ns : List ByteArray) (hn : n = sl.length) (hm : m = ns.length) (hS : Strs w ao sl) (hl : sl.length ≤ 1000000) (hN : Strs w no ns) (hnl : ns.length ≤ 1000000) :
    Calls Try.prog 7 #[.slice ao n cap, .slice no m ncap] w fun e w' => Says sl ns e ∧ Below w.heap.size w w' := by
  subst hn hm
  have HS := hid hS
  have HN := hid hN
  clear hS hN
  go_enter Try.func7, Try.ntmps7
  go_wp2_with fail
  refine (selects_any w ao no cap ncap sl ns HS.out hl HN.out hnl).mono ?_
  rintro e w' ⟨⟨b, rfl, hb⟩, hw⟩
  have HB := hid hb
  clear hb
  go_wp2_with fail
  go_ret
  exact ⟨⟨b, rfl, HB.out⟩, hw⟩
end Go.Proofs.Qxb6617177a
