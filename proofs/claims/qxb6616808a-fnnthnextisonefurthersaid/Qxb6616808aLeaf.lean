import Derived.Test.Qxb6616808aRows
import Derived.Test.Qxb6616808aPlain
import Derived.Test.Qxb6616808aMem
import Derived.WalkKit
import Derived.WalkSmall
namespace Go.Proofs.Qxb6616808a
open Go.RowKit

theorem hid {p : Prop} (h : p) : Hid p := h

/-- the day's flag of a kind -/
def dayB (kind : Int) (t k : Bool) : Bool := if kind = 2 then k else t

set_option maxRecDepth 100000 in
set_option maxHeartbeats 400000 in
/-- (CalendarDay).is -/
theorem is_any (kind : Int) (t k : Bool) (w : World) :
    Calls Try.prog 12 #[.agg #[.bool t, .bool k], .int .i64 kind] w fun e w' => e = .returned (.bool (dayB kind t k)) ∧ Below w.heap.size w w' := by
  by_cases h : kind = 2
  · have hb : (kind == 2) = true := by simp [h]
    have HD : Hid (dayB kind t k = k) := by unfold Hid dayB; rw [if_pos h]
    clear h
    go_enter Try.func12, Try.ntmps12
    go_wp2
    go_ret
    exact ⟨by rw [HD.out]; rfl, (Below.refl _ _).alloc (Nat.le_refl _) _⟩
  · have hb : (kind == 2) = false := by simp [h]
    have HD : Hid (dayB kind t k = t) := by unfold Hid dayB; rw [if_neg h]
    clear h
    go_enter Try.func12, Try.ntmps12
    go_wp2
    go_ret
    exact ⟨by rw [HD.out]; rfl, (Below.refl _ _).alloc (Nat.le_refl _) _⟩

/-- A slice of bools that lies in w. -/
def Marks (w : World) (ao : Option Addr) (ml : List Bool) : Prop :=
  ∀ j, j < ml.length → ∃ b off, ao = some ⟨b, off, Option.none⟩ ∧ b < w.heap.size ∧ w.cell? ⟨b, off + j, Option.none⟩ = some (.bool (ml.getD j false))
theorem Marks.below {w w' : World} {mo : Option Addr} {ml : List Bool} (h : Marks w mo ml) (f : Below w.heap.size w w') : Marks w' mo ml := by
  intro j hj
  obtain ⟨b, off, h1, h2, h3⟩ := h j hj
  exact ⟨b, off, h1, Nat.lt_of_lt_of_le h2 f.size, (f.cell (by exact h2)).trans h3⟩

/-- the flags of a kind, by index -/
def dayF (kind : Int) (T K : List Bool) (j : Nat) : Bool := dayB kind (T.getD j false) (K.getD j false)

set_option maxRecDepth 100000 in
set_option maxHeartbeats 400000 in
/-- nthIsKind -/
theorem isKind_any (kind : Int) (T K : List Bool) (ta ka : Option Addr) (tc kc j : Nat) (z : Int) (w : World) (hz : z = (j : Int)) (hT : Marks w ta T) (hK : Marks w ka K) (ht : j < T.length) (hk : j < K.length) :
    Calls Try.prog 9 #[.slice ta T.length tc, .slice ka K.length kc, .int .i64 z, .int .i64 kind] w fun e w' => e = .returned (.bool (dayF kind T K j)) ∧ w' = w := by
  subst hz
  obtain ⟨tb, to, rfl, _, ct⟩ := hT j ht
  obtain ⟨kb, ko, rfl, _, ck⟩ := hK j hk
  unfold dayF
  clear hT hK
  generalize T.getD j false = t at *
  generalize K.getD j false = k at *
  by_cases h : kind = 2
  · have hb : (kind == 2) = true := by simp [h]
    have HD : Hid (dayB kind t k = k) := by unfold Hid dayB; rw [if_pos h]
    clear h
    go_enter Try.func9, Try.ntmps9
    go_wp2
    go_ret
    exact ⟨by rw [HD.out]; rfl, rfl⟩
  · have hb : (kind == 2) = false := by simp [h]
    have HD : Hid (dayB kind t k = t) := by unfold Hid dayB; rw [if_neg h]
    clear h
    go_enter Try.func9, Try.ntmps9
    go_wp2
    go_ret
    exact ⟨by rw [HD.out]; rfl, rfl⟩

set_option maxRecDepth 100000 in
set_option maxHeartbeats 800000 in
/-- nthCount -/
theorem count_any (kind : Int) (T K : List Bool) (ta ka : Option Addr) (tc kc a b : Nat) (za zb : Int) (w : World) (hza : za = (a : Int)) (hzb : zb = (b : Int)) (hT : Marks w ta T) (hK : Marks w ka K) (hab : a ≤ b) (ht : b ≤ T.length) (hk : b ≤ K.length) (hl : T.length ≤ 65536) :
    Calls Try.prog 8 #[.slice ta T.length tc, .slice ka K.length kc, .int .i64 za, .int .i64 zb, .int .i64 kind] w fun e w' => e = .returned (.int .i64 (cnt (dayF kind T K) (b - a) a)) ∧ w' = w := by
  subst hza hzb
  have HT := hid hT
  have HK := hid hK
  clear hT hK
  go_enter Try.func8, Try.ntmps8
  go_wp2_with fail
  go_loop [11, 12] (fun c k => ∃ j : Nat, a ≤ j ∧ j ≤ b ∧ k = .int .i64 j ∧ c = .int .i64 (cnt (dayF kind T K) (j - a) a)) (fun _ k => b - (intOf k).toNat)
  case atStart => exact ⟨a, Nat.le_refl _, hab, rfl, by simp [cnt]⟩
  case round =>
    obtain ⟨j, haj, hjb, rfl, rfl⟩ := hrel
    have hcl := cnt_le (dayF kind T K) (j - a) a
    by_cases hlt : j < b
    · have HS := hid (cnt_succ (dayF kind T K) (j - a) a)
      rw [show a + (j - a) = j by omega, show j - a + 1 = j + 1 - a by omega] at HS
      go_wp2_with fail
      refine (isKind_any kind T K ta ka tc kc j _ _ rfl HT.out HK.out (by omega) (by omega)).mono ?_
      rintro e w' ⟨rfl, rfl⟩
      cases hd : dayF kind T K j with
      | true =>
        rw [hd, if_pos rfl] at HS
        clear hd
        generalize cnt (dayF kind T K) (j - a) a = c at *
        go_wp2_with fail
        go_round
        case rel => exact ⟨j + 1, by omega, by omega, by go_num, by rw [HS.out]; go_num⟩
        case measure => simp [intOf]; omega
      | false =>
        rw [hd, if_neg (by simp)] at HS
        clear hd
        generalize cnt (dayF kind T K) (j - a) a = c at *
        go_wp2_with fail
        go_round
        case rel => exact ⟨j + 1, by omega, by omega, by go_num, by rw [HS.out]; go_num⟩
        case measure => simp [intOf]; omega
    · have hjb' : j = b := by omega
      subst hjb'
      go_wp2_with fail
      go_ret
      exact ⟨rfl, rfl⟩
end Go.Proofs.Qxb6616808a
