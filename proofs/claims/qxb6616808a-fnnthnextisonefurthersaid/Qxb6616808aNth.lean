import Derived.Test.Qxb6616808aLeaf
namespace Go.Proofs.Qxb6616808a
open Go.RowKit

/-- block g holds the calendar's days -/
def Days (w : World) (g : Nat) (T K : List Bool) : Prop :=
  g < w.heap.size ∧ ∀ j, j < T.length → w.cell? ⟨g, j * 2, Option.none⟩ = some (.bool (T.getD j false)) ∧ w.cell? ⟨g, j * 2 + 1, Option.none⟩ = some (.bool (K.getD j false))
theorem Days.below {w w' : World} {g : Nat} {T K : List Bool} (h : Days w g T K) (f : Below w.heap.size w w') : Days w' g T K :=
  ⟨Nat.lt_of_lt_of_le h.1 f.size, fun j hj => ⟨(f.cell (by exact h.1)).trans (h.2 j hj).1, (f.cell (by exact h.1)).trans (h.2 j hj).2⟩⟩

/-- the calendar's value -/
def cal (g n cap : Nat) : Value := .agg #[.int .u64 0, .int .i64 0, .pointer Option.none, .slice (some ⟨g, 0, Option.none⟩) n cap]

set_option maxRecDepth 100000 in
set_option maxHeartbeats 400000 in
/-- (Calendar).nth over no days -/
theorem nth_none (g n cap : Nat) (za zb q kind : Int) (w : World) (h : ¬ za < zb) :
    Calls Try.prog 11 #[cal g n cap, .int .i64 za, .int .i64 zb, .int .i64 q, .int .i64 kind] w fun e w' => e = .returned (.tuple #[.int .i64 (-1), .int .i64 0]) ∧ Below w.heap.size w w' := by
  unfold cal
  go_enter Try.func11, Try.ntmps11
  go_wp2_with fail
  refine wp_loop_rounds 1 ?_
  rw [rounds_succ]
  go_wp2
  go_ret2
  exact ⟨rfl, (Below.refl _ _).alloc (Nat.le_refl _) _⟩

set_option maxRecDepth 100000 in
set_option maxHeartbeats 1000000 in
/-- (Calendar).nth -/
theorem nth_some (kind : Int) (T K : List Bool) (g cap a b : Nat) (za zb q : Int) (w : World) (hza : za = (a : Int)) (hzb : zb = (b : Int)) (hD : Days w g T K) (hab : a ≤ b) (ht : b ≤ T.length) (hl : T.length ≤ 65536) :
    Calls Try.prog 11 #[cal g T.length cap, .int .i64 za, .int .i64 zb, .int .i64 q, .int .i64 kind] w fun e w' =>
      e = .returned (.tuple #[.int .i64 (nthF (dayF kind T K) q (b - a) a 0).1, .int .i64 (nthF (dayF kind T K) q (b - a) a 0).2]) ∧ Below w.heap.size w w' := by
  subst hza hzb
  have HD := hid hD
  clear hD
  unfold cal
  go_enter Try.func11, Try.ntmps11
  go_wp2_with fail
  go_loopw [10, 11] (fun iv fv wr => ∃ (j f : Nat), a ≤ j ∧ j ≤ b ∧ f ≤ j - a ∧ iv = .int .i64 j ∧ fv = .int .i64 f ∧ Hid (nthF (dayF kind T K) q (b - a) a 0 = nthF (dayF kind T K) q (b - j) j f) ∧
      Below (w.heap.size + 1) (w.alloc (.cells #[.int .u64 0, .int .i64 0, .pointer Option.none, .slice (some ⟨g, 0, Option.none⟩) T.length cap] 30)) wr) (fun i _ _ => b - (intOf i).toNat)
  case atStart => exact ⟨a, 0, Nat.le_refl _, hab, by omega, rfl, rfl, rfl, Below.refl _ _⟩
  case round =>
    obtain ⟨j, f, haj, hjb, hf, rfl, rfl, HN, hbel⟩ := hrel
    have hz : w.heap.size < wr.heap.size := by have := hbel.size; simp at this; omega
    have hbw : Below w.heap.size w wr := ((Below.refl w.heap.size w).alloc (Nat.le_refl _) _).trans (hbel.mono (by omega))
    by_cases hlt : j < b
    · have c0 : wr.cell? ⟨w.heap.size, 3, Option.none⟩ = some (.slice (some ⟨g, 0, Option.none⟩) T.length cap) := by
        rw [hbel.cell (by simp), cell_of_row _ _ _ _ _ _ (heap_alloc_new w _)]; rfl
      have c1 : wr.cell? ⟨g, j * 2, Option.none⟩ = some (.bool (T.getD j false)) := (hbw.cell (by exact HD.out.1)).trans (HD.out.2 j (by omega)).1
      have c2 : wr.cell? ⟨g, j * 2 + 1, Option.none⟩ = some (.bool (K.getD j false)) := (hbw.cell (by exact HD.out.1)).trans (HD.out.2 j (by omega)).2
      have HDD : Hid (dayB kind (T.getD j false) (K.getD j false) = dayF kind T K j) := rfl
      generalize T.getD j false = tj at c1 HDD
      generalize K.getD j false = kj at c2 HDD
      go_wp2_with fail
      refine (is_any kind _ _ _).mono ?_
      rintro e w1 ⟨rfl, hb1⟩
      have hbel1 : Below (w.heap.size + 1) (w.alloc (.cells #[.int .u64 0, .int .i64 0, .pointer Option.none, .slice (some ⟨g, 0, Option.none⟩) T.length cap] 30)) w1 := hbel.trans (hb1.mono (by omega))
      have hbw1 : Below w.heap.size w w1 := hbw.trans (hb1.mono (by omega))
      rw [show b - j = (b - (j + 1)) + 1 by omega] at HN
      clear c0 c1 c2 hbel hbw hb1
      generalize dayB kind tj kj = bb at *
      cases bb with
      | false =>
        have HN' : Hid (nthF (dayF kind T K) q (b - a) a 0 = nthF (dayF kind T K) q (b - (j + 1)) (j + 1) f) := by
          unfold Hid; rw [HN.out, nthF, ← HDD.out, if_neg (by simp)]
        go_wp2_with fail
        go_roundw
        case rel => exact ⟨j + 1, f, by omega, by omega, by omega, by go_num, rfl, HN', hbel1⟩
        case measure => simp [intOf]; omega
      | true =>
        by_cases hq : (f : Int) + 1 = q
        · have HN' : Hid (nthF (dayF kind T K) q (b - a) a 0 = ((j : Int), q)) := by
            unfold Hid; rw [HN.out, nthF, ← HDD.out, if_pos rfl, if_pos hq]
          have HQ := hid hq
          have hqb : ((f : Int) + 1 == q) = true := by simp [hq]
          clear hq
          go_wp2_with fail
          go_ret2
          exact ⟨by rw [HN'.out]; simp only [← HQ.out]; rfl, hbw1⟩
        · have HN' : Hid (nthF (dayF kind T K) q (b - a) a 0 = nthF (dayF kind T K) q (b - (j + 1)) (j + 1) (f + 1)) := by
            unfold Hid; rw [HN.out, nthF, ← HDD.out, if_pos rfl, if_neg hq]
          have hqb : ((f : Int) + 1 == q) = false := by simp [hq]
          clear hq
          go_wp2_with fail
          go_roundw
          case rel => exact ⟨j + 1, f + 1, by omega, by omega, by omega, by go_num, by go_num, HN', hbel1⟩
          case measure => simp [intOf]; omega
    · have hjb' : j = b := by omega
      subst hjb'
      have HN' : Hid (nthF (dayF kind T K) q (j - a) a 0 = (-1, (f : Int))) := by
        unfold Hid; rw [HN.out, Nat.sub_self]; rfl
      go_wp2_with fail
      go_ret2
      exact ⟨by rw [HN'.out]; rfl, hbw⟩

set_option maxRecDepth 100000 in
set_option maxHeartbeats 400000 in
/-- ZZnth over no days -/
theorem znth_none (g n cap : Nat) (za zb q kind : Int) (w : World) (h : ¬ za < zb) :
    Calls Try.prog 7 #[cal g n cap, .int .i64 za, .int .i64 zb, .int .i64 q, .int .i64 kind] w fun e w' => e = .returned (.tuple #[.int .i64 (-1), .int .i64 0]) ∧ Below w.heap.size w w' := by
  unfold cal
  go_enter Try.func7, Try.ntmps7
  go_wp2_with fail
  refine (nth_none g n cap za zb q kind _ (by omega)).mono ?_
  rintro e w1 ⟨rfl, hb1⟩
  go_wp2_with fail
  go_ret2
  exact ⟨rfl, ((Below.refl _ _).alloc (Nat.le_refl _) _).trans (hb1.mono (by simp))⟩

set_option maxRecDepth 100000 in
set_option maxHeartbeats 400000 in
/-- ZZnth -/
theorem znth_some (kind : Int) (T K : List Bool) (g cap a b : Nat) (za zb q : Int) (w : World) (hza : za = (a : Int)) (hzb : zb = (b : Int)) (hD : Days w g T K) (hab : a ≤ b) (ht : b ≤ T.length) (hl : T.length ≤ 65536) (r1 r2 : Int)
    (hr : nthF (dayF kind T K) q (b - a) a 0 = (r1, r2)) :
    Calls Try.prog 7 #[cal g T.length cap, .int .i64 za, .int .i64 zb, .int .i64 q, .int .i64 kind] w fun e w' =>
      e = .returned (.tuple #[.int .i64 r1, .int .i64 r2]) ∧ Below w.heap.size w w' := by
  have HD := hid hD
  have HZ := hid hza
  have HY := hid hzb
  have HR := hid hr
  clear hD hza hzb hr
  unfold cal
  go_enter Try.func7, Try.ntmps7
  go_wp2_with fail
  refine (nth_some kind T K g cap a b za zb q _ HZ.out HY.out (HD.out.below ((Below.refl _ _).alloc (Nat.le_refl _) _)) hab ht hl).mono ?_
  rintro e w1 ⟨rfl, hb1⟩
  rw [HR.out]
  go_wp2_with fail
  go_ret2
  exact ⟨rfl, ((Below.refl _ _).alloc (Nat.le_refl _) _).trans (hb1.mono (by simp))⟩
end Go.Proofs.Qxb6616808a
