import Derived.Test.Qxb6616808aNth
namespace Go.Proofs.Qxb6616808a
open Go.RowKit

theorem Try.info39 : (Try.prog.info? 39).map (fun i => (i.zero, i.size, i.bytes)) = some (some (.agg #[.bool false, .bool false]), 2, 2) := by kernel_rfl

/-- of the days' row the first k are laid -/
def Row (w : World) (g : Nat) (T K : List Bool) (k : Nat) : Prop :=
  ∃ cur, w.heap[g]? = some (.cells cur 39 (0, 0)) ∧ cur.size = T.length * 2 ∧ ∀ j, j < k → cur[j * 2]? = some (.bool (T.getD j false)) ∧ cur[j * 2 + 1]? = some (.bool (K.getD j false))

theorem row_start {w : World} {b g n : Nat} {T K : List Bool} {xs : List Value} (h : w.ownsRow b 39 2 (.slice (some ⟨g, 0, Option.none⟩) T.length n) T.length xs) (hn : n = T.length) : Row w g T K 0 := by
  rcases h.2 with ⟨h0, _⟩ | ⟨g', cap, cur, hv, _, hh, _, _, hs, _⟩
  · simp at h0
  · simp at hv
    obtain ⟨rfl, rfl⟩ := hv
    exact ⟨cur, hh, by rw [hs, hn], fun j hj => by omega⟩

theorem row_cells {w : World} {g k : Nat} {T K : List Bool} (h : Row w g T K k) (hk : k < T.length) :
    ∃ u v, w.cell? ⟨g, k * 2, Option.none⟩ = some u ∧ w.cell? ⟨g, k * 2 + 1, Option.none⟩ = some v ∧ w.frozen? ⟨g, k * 2, Option.none⟩ = false ∧ w.frozen? ⟨g, k * 2 + 1, Option.none⟩ = false := by
  obtain ⟨cur, hh, hs, _⟩ := h
  refine ⟨cur[k * 2]'(by omega), cur[k * 2 + 1]'(by omega), ?_, ?_, frozen_of_row _ _ _ _ _ hh, frozen_of_row _ _ _ _ _ hh⟩
  · rw [cell_of_row _ _ _ _ _ _ hh]; exact Array.getElem?_eq_getElem (by omega)
  · rw [cell_of_row _ _ _ _ _ _ hh]; exact Array.getElem?_eq_getElem (by omega)

theorem row_step {w : World} {g k : Nat} {T K : List Bool} (h : Row w g T K k) (hk : k < T.length) :
    Row ((w.setCell ⟨g, k * 2, Option.none⟩ (.bool (T.getD k false))).setCell ⟨g, k * 2 + 1, Option.none⟩ (.bool (K.getD k false))).drew g T K (k + 1) := by
  obtain ⟨cur, hh, hs, hc⟩ := h
  have h1 := heap_setCell_same w g (k * 2) cur 39 (.bool (T.getD k false)) hh
  have h2 := heap_setCell_same _ g (k * 2 + 1) _ 39 (.bool (K.getD k false)) h1
  refine ⟨_, h2, by simp [hs], fun j hj => ?_⟩
  simp only [Array.getElem?_setIfInBounds, Array.size_setIfInBounds]
  by_cases e : j = k
  · subst e
    rw [if_neg (by omega), if_pos rfl, if_pos (by omega), if_pos rfl, if_pos (by omega)]
    exact ⟨rfl, rfl⟩
  · rw [if_neg (by omega), if_neg (by omega), if_neg (by omega), if_neg (by omega)]
    exact hc j (by omega)

theorem row_days {w : World} {g : Nat} {T K : List Bool} (h : Row w g T K T.length) : Days w g T K := by
  obtain ⟨cur, hh, hs, hc⟩ := h
  exact ⟨lt_of_block hh, fun j hj => ⟨by rw [cell_of_row _ _ _ _ _ _ hh]; exact (hc j hj).1, by rw [cell_of_row _ _ _ _ _ _ hh]; exact (hc j hj).2⟩⟩

theorem Days.fr {S : Nat → Prop} {w w' : World} {g : Nat} {T K : List Bool} (h : Days w g T K) (f : Fr S w w') (hS : ¬ S g) : Days w' g T K :=
  ⟨Nat.lt_of_lt_of_le h.1 f.size, fun j hj => ⟨(World.cell?_of_block (w := w) (f.block g h.1 hS)).trans (h.2 j hj).1, (World.cell?_of_block (w := w) (f.block g h.1 hS)).trans (h.2 j hj).2⟩⟩
theorem Days.fr4 {w : World} {b : Nat} {T K : List Bool} (h : Days w (b + 1) T K) (v0 v1 v2 v3 : Value) :
    Days ((((w.setCell ⟨b, 0, Option.none⟩ v0).setCell ⟨b, 1, Option.none⟩ v1).setCell ⟨b, 2, Option.none⟩ v2).setCell ⟨b, 3, Option.none⟩ v3) (b + 1) T K := by
  have f : Fr (fun k => k = b) w ((((w.setCell ⟨b, 0, Option.none⟩ v0).setCell ⟨b, 1, Option.none⟩ v1).setCell ⟨b, 2, Option.none⟩ v2).setCell ⟨b, 3, Option.none⟩ v3) :=
    (((Fr.setCell (S := fun k => k = b) w _ _ rfl).trans (Fr.setCell (S := fun k => k = b) _ _ _ rfl) (fun _ _ h => h)).trans (Fr.setCell (S := fun k => k = b) _ _ _ rfl) (fun _ _ h => h)).trans (Fr.setCell (S := fun k => k = b) _ _ _ rfl) (fun _ _ h => h)
  exact h.fr f (by omega)

set_option maxRecDepth 100000 in
set_option maxHeartbeats 1000000 in
/-- nthCalendar -/
theorem cal_any (T K : List Bool) (ta ka : Option Addr) (tc kc : Nat) (w : World) (hT : Marks w ta T) (hK : Marks w ka K) (hTK : T.length = K.length) (hl : T.length ≤ 65536) :
    Calls Try.prog 6 #[.slice ta T.length tc, .slice ka K.length kc] w fun e w' => ∃ g, e = .returned (cal g T.length T.length) ∧ Days w' g T K ∧ Below w.heap.size w w' := by
  have HT := hid hT
  have HK := hid hK
  have HL := hid hTK
  clear hT hK hTK
  obtain ⟨i0, hi, hz0, hz1, hz2⟩ := info_parts Try.info39
  go_enter Try.func6, Try.ntmps6
  go_wp2_with (at_make; (refine wpList_make_full _ rfl (.tmp 8) (.tmp 8) 28 rfl w.heap.size 39 i0 (.agg #[.bool false, .bool false]) 2 Try.underlying28 hi hz0 hz1 .i64 .i64 _ _ T.length rfl rfl rfl rfl (by rw [hz2]; omega) (by unfold maxLen; omega) (by simp) ?_))
  intro w1 hown hgrow
  go_wp2_with fail
  have HG : Hid (w1.heap[w.heap.size]? = some (.cells #[.int .u64 0, .int .i64 0, .pointer Option.none, .slice Option.none 0 0] 30 (0, 0))) := by
    unfold Hid; rw [hgrow.block w.heap.size (by simp) (by simp), heap_alloc_new]
  have HB : Hid (Below w.heap.size w w1) := ((Below.refl _ _).alloc (Nat.le_refl _) _).grown hgrow (by simp) (by simp)
  have HR : Hid (Row w1 (w.heap.size + 1) T K 0) := row_start hown rfl
  clear hown hgrow hi hz0 hz1 hz2
  go_loopw [6] (fun kv wr => ∃ k : Nat, k ≤ T.length ∧ kv = .int .i64 k ∧ Hid (Row wr (w.heap.size + 1) T K k) ∧ Hid (wr.heap[w.heap.size]? = some (.cells #[.int .u64 0, .int .i64 0, .pointer Option.none, .slice Option.none 0 0] 30 (0, 0))) ∧ Hid (Below w.heap.size w wr)) (fun k _ => T.length - (intOf k).toNat)
  case atStart => exact ⟨0, Nat.zero_le _, rfl, HR, HG, HB⟩
  case round =>
    clear HR HG HB
    obtain ⟨k, hk, rfl, HR, HG, HB⟩ := hrel
    by_cases hlt : k < T.length
    · obtain ⟨tb, to, rfl, tl, ct⟩ := HT.out k hlt
      obtain ⟨kb, ko, rfl, kl, ck⟩ := HK.out k (by have := HL.out; omega)
      obtain ⟨u, v, d1, d2, d3, d4⟩ := row_cells HR.out hlt
      have e1 : wr.cell? ⟨tb, to + k, Option.none⟩ = some (.bool (T.getD k false)) := (HB.out.cell (by exact tl)).trans ct
      have e2 : wr.cell? ⟨kb, ko + k, Option.none⟩ = some (.bool (K.getD k false)) := (HB.out.cell (by exact kl)).trans ck
      have hkk : k < K.length := by have := HL.out; omega
      clear ct ck
      have HR' := hid (row_step HR.out hlt)
      generalize T.getD k false = tk at e1 HR'
      generalize K.getD k false = kk at e2 HR'
      go_wp2_with fail
      go_region
      all_goals go_wp2_with fail
      all_goals
        go_roundw
        case rel => exact ⟨k + 1, by omega, by go_num, HR', by unfold Hid; rw [heap_drew, heap_setCell_other _ _ _ _ (by simp), heap_setCell_other _ _ _ _ (by simp)]; exact HG.out, ((HB.out.setCell (by simp) _).setCell (by simp) _).drew⟩
        case measure => simp [intOf]; omega
    · have hkl : k = T.length := by omega
      subst hkl
      have f0 : wr.frozen? ⟨w.heap.size, 0, Option.none⟩ = false := frozen_of_row _ _ _ _ _ HG.out
      have f1 : wr.frozen? ⟨w.heap.size, 1, Option.none⟩ = false := frozen_of_row _ _ _ _ _ HG.out
      have f2 : wr.frozen? ⟨w.heap.size, 2, Option.none⟩ = false := frozen_of_row _ _ _ _ _ HG.out
      have f3 : wr.frozen? ⟨w.heap.size, 3, Option.none⟩ = false := frozen_of_row _ _ _ _ _ HG.out
      have c0 : wr.cell? ⟨w.heap.size, 0, Option.none⟩ = some (.int .u64 0) := by rw [cell_of_row _ _ _ _ _ _ HG.out]; rfl
      have c1 : wr.cell? ⟨w.heap.size, 1, Option.none⟩ = some (.int .i64 0) := by rw [cell_of_row _ _ _ _ _ _ HG.out]; rfl
      have c2 : wr.cell? ⟨w.heap.size, 2, Option.none⟩ = some (.pointer Option.none) := by rw [cell_of_row _ _ _ _ _ _ HG.out]; rfl
      have c3 : wr.cell? ⟨w.heap.size, 3, Option.none⟩ = some (.slice Option.none 0 0) := by rw [cell_of_row _ _ _ _ _ _ HG.out]; rfl
      go_wp2_with fail
      refine bodyPost_ret (v := cal (w.heap.size + 1) T.length T.length) (by simp [results, Try.results6, go_sem, cal, c0, c1, c2, c3]) rfl ⟨w.heap.size + 1, rfl, ?_, (((HB.out.setCell (by simp) _).setCell (by simp) _).setCell (by simp) _).setCell (by simp) _⟩
      exact (row_days HR.out).fr4 _ _ _ _
end Go.Proofs.Qxb6616808a
