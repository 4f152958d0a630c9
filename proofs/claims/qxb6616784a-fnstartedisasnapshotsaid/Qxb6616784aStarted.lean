import Derived.Test.Qxb6616784aStart
import Derived.Conc.MuLone
import Derived.Defers
namespace Go.Proofs.Qxb6616784a
open Go.RowKit
open Go.MuLone

/-- the members that were run, in order -/
def runs : List Nat → List Bool → List Nat
  | m :: ms, b :: fl => if b then m :: runs ms fl else runs ms fl
  | _, _ => []

theorem runs_nil (fl : List Bool) : runs [] fl = [] := by cases fl <;> rfl
theorem runs_snoc : ∀ (ms : List Nat) (fl : List Bool) (k m : Nat), ms[k]? = some m → ms.length = fl.length → runs (ms.take (k + 1)) fl = runs (ms.take k) fl ++ (if fl.getD k false then [m] else [])
  | [], _, _, _, h, _ => by simp at h
  | _ :: _, [], _, _, _, h => by simp at h
  | a :: ms, b :: fl, 0, m, h, _ => by
    simp at h; subst h
    simp [runs]
  | a :: ms, b :: fl, k + 1, m, h, hl => by
    have ih := runs_snoc ms fl k m (by simpa using h) (by simpa using hl)
    simp only [List.take_succ_cons, runs, ih, List.getD_cons_succ]
    cases b <;> simp
theorem runs_le : ∀ (ms : List Nat) (fl : List Bool), (runs ms fl).length ≤ ms.length
  | [], fl => by rw [runs_nil]; simp
  | _ :: _, [] => by simp [runs]
  | a :: ms, b :: fl => by
    have := runs_le ms fl
    simp only [runs]
    cases b <;> simp <;> omega

theorem reblock {w wr : World} {k o : Nat} {cs : Array Value} {t : TypeId} {v u : Value} (h : w.heap[k]? = some (.cells cs t (0, 0))) (hv : cs[o]? = some v)
    (hr : wr.heap[k]? = (w.setCell ⟨k, o, Option.none⟩ u).heap[k]?) : (wr.setCell ⟨k, o, Option.none⟩ v).heap[k]? = w.heap[k]? := by
  have h1 := heap_setCell_same w k o cs t u h
  rw [h1] at hr
  have h2 := heap_setCell_same _ k o _ t v hr
  have h3 := heap_setCell_same _ k o _ t v h1
  rw [h2, ← h3]
  exact relock h hv

theorem eq_chan (d : Nat) (w : World) (c : Option Nat) : (Op.equalIn (d + 1) 54 (.chan c) (.chan Option.none)).run Try.prog w = .ok c.isNone w := by
  cases c <;> simp [Op.equalIn, run_underlying Try.underlying54]
theorem neq_chan (w : World) (c : Option Nat) : (binOp .neq 54 (.chan c) (.chan Option.none)).run Try.prog w = .ok (.bool c.isSome) w := by
  simp only [binOp]
  simp [Op.equal, Op.maxDepth, eq_chan 9999 w c]

theorem owns_keep {w : World} {b : Nat} {v : Value} {cu nx : List Nat} {m : Nat} (h : w.ownsRow b 29 1 v (cu.length + 1) (cu.map ptrTo ++ [ptrTo m])) (hn : nx = cu ++ [m]) : w.ownsRow b 29 1 v nx.length (nx.map ptrTo) := by
  subst hn; simpa using h

theorem started_below {w wr : World} {fb : Nat} {cs : Array Value} (h : Below w.heap.size (w.setCell ⟨fb, 14, Option.none⟩ (.int .i32 1)) wr) (hb : w.heap[fb]? = some (.cells cs 61 (0, 0))) (hc : cs[14]? = some (.int .i32 0)) (hl : fb < w.heap.size) :
    Below w.heap.size w (wr.setCell ⟨fb, 14, Option.none⟩ (.int .i32 0)) := by
  refine ⟨h.os, h.tape, h.output, by have := h.size; simpa using this, fun k hk => ?_⟩
  by_cases e : k = fb
  · subst e
    exact reblock hb hc (h.block k hk)
  · rw [heap_setCell_other _ _ _ _ e, h.block k hk, heap_setCell_other _ _ _ _ e]

set_option maxRecDepth 100000 in
set_option maxHeartbeats 1000000 in
theorem started_any (w : World) (base fb : Nat) (sv : Value) (ms : List Nat) (fl : List Bool) (hF : Fac w base fb sv ms fl) (hl : ms.length ≤ 1000000) :
    Calls Try.prog 13 #[ptrTo fb] w fun e w' => ∃ v, e = .returned v ∧ w'.ownsRow w.heap.size 29 1 v (runs ms fl).length ((runs ms fl).map ptrTo) ∧ Below w.heap.size w w' := by
  obtain ⟨s1, s2, s3, s4, s5⟩ := hF.sep
  obtain ⟨cs, hblk, hsz, hc14, hc16⟩ := hF.blk
  obtain ⟨ao, cap, rfl⟩ := owns_slice hF.own
  have hc0 : w.cell? ⟨fb, 14, Option.none⟩ = some (.int .i32 0) := by rw [cell_of_row _ _ _ _ _ _ hblk]; exact hc14
  have hf0 : w.frozen? ⟨fb, 14, Option.none⟩ = false := frozen_of_row _ _ _ _ _ hblk
  have hcs : (w.setCell ⟨fb, 14, Option.none⟩ (.int .i32 1)).cell? ⟨fb, 16, Option.none⟩ = some (.slice ao ms.length cap) := by
    rw [World.cell?_setCell_other _ _ _ _ (by simp), cell_of_row _ _ _ _ _ _ hblk]; exact hc16
  obtain ⟨i0, hi, hz0, hz1, hz2⟩ := info_parts Try.info29
  have HF : Hid (Fac w base fb (.slice ao ms.length cap) ms fl) := hF
  have HB : Hid (w.heap[fb]? = some (.cells cs 61 (0, 0)) ∧ cs[14]? = some (.int .i32 0)) := ⟨hblk, hc14⟩
  clear hF hblk s1 s2 s3 s4 hc14 hc16 hsz
  have hnq := neq_chan
  unfold ptrTo
  go_enter_defers Try.func13, Try.ntmps13
  go_wp2_with (go_at_call 15; refine (lock_free Try.muLib ⟨fb, 14, Option.none⟩ _ hc0 hf0).mono ?_; rintro e w' ⟨rfl, rfl⟩)
  go_loopw [3, 18] (fun v i wr => ∃ k : Nat, k ≤ ms.length ∧ i = .int .i64 k ∧ wr.ownsRow w.heap.size 29 1 v (runs (ms.take k) fl).length ((runs (ms.take k) fl).map ptrTo) ∧
      Below w.heap.size (w.setCell ⟨fb, 14, Option.none⟩ (.int .i32 1)) wr) (fun _ i _ => ms.length - (intOf i).toNat)
  case atStart => exact ⟨0, Nat.zero_le _, rfl, by simp only [List.take_zero, runs_nil]; exact World.ownsRow_nil _ _ _ _, Below.refl _ _⟩
  case round =>
    obtain ⟨k, hk, rfl, hown, hbel⟩ := hrel
    by_cases hlt : k < ms.length
    · obtain ⟨g, cap', m, c, hsv, him, c1, c2, c3, c4, hcf, l1, l2, l3⟩ := HF.out.at hlt
      obtain ⟨rfl, rfl⟩ : ao = some ⟨g, 0, Option.none⟩ ∧ cap = cap' := by simpa using hsv
      have hgf : g ≠ fb := fun e => HF.out.sep.1 (by rw [← e]; rfl)
      have hmf : m ≠ fb := (HF.out.sep.2.1 m (List.mem_of_getElem? him)).1
      have d2 : wr.cell? ⟨g, k, Option.none⟩ = some (.pointer (some ⟨m, 0, Option.none⟩)) := by
        rw [hbel.cell (by exact l1), World.cell?_setCell_other _ _ _ _ (by simp)]; exact c2
      have d3 : wr.cell? ⟨m, 7, Option.none⟩ = some (.chan c) := by
        rw [hbel.cell (by exact l2), World.cell?_setCell_other _ _ _ _ (by simp)]; exact c3
      have HS : Hid (runs (ms.take (k + 1)) fl = runs (ms.take k) fl ++ (if fl.getD k false then [m] else [])) := runs_snoc ms fl k m him HF.out.len
      have hrl : (runs (ms.take k) fl).length ≤ k := by have := runs_le (ms.take k) fl; simp at this; omega
      have hsz : w.heap.size ≤ wr.heap.size := by have := hbel.size; simpa using this
      have HC : Hid (c.isSome = fl.getD k false) := hcf
      clear c1 c2 c3 c4 him hsv hcf hcs hc0 hf0 l3
      generalize hnx : runs (ms.take (k + 1)) fl = nx at HS
      have HN : Hid (runs (ms.take (k + 1)) fl = nx) := hnx
      generalize runs (ms.take k) fl = cu at HS hown hrl
      clear hnx
      cases c with
      | none =>
        have hq : nx = cu := by have := HC.out; rw [HS.out, ← this]; simp
        subst hq
        go_wp2
        go_roundw
        case rel => exact ⟨k + 1, by omega, by go_num, by rw [HN.out]; exact hown, hbel⟩
        case measure => simp [intOf]; omega
      | some cc =>
        have hq : Hid (nx = cu ++ [m]) := by have := HC.out; unfold Hid; rw [HS.out, ← this]; simp
        go_wp2_with (at_builtin; refine wpList_append_own _ rfl (.tmp 27) (.tmp 29) 26 rfl w.heap.size 29 i0 (.pointer Option.none) 1 8 Try.underlying26 hi hz0 hz1 hz2 rfl (by decide) _ cu.length (cu.map ptrTo) rfl (hown.alloc _) ⟨wr.heap.size, 0, Option.none⟩ 1 1 [ptrTo m] rfl rfl (one_new _ _ _ _ (by simp)) (by intro u hu; simp at hu; subst hu; rfl) (by unfold maxLen; omega) (by omega) (by simp; omega) ?_)
        intro v' w1 hown1 hgrow1 _
        have R1 := owns_keep hown1 hq.out
        have R2 : Below w.heap.size (w.setCell ⟨fb, 14, Option.none⟩ (.int .i32 1)) w1 := (hbel.alloc hsz _).grown hgrow1 (by simp; omega) (fun j hj => (hown.lt j hj).1)
        clear hown1 hgrow1 hown hbel d2 d3
        go_wp2
        go_roundw
        case rel => exact ⟨k + 1, by omega, by go_num, by rw [HN.out]; exact R1, R2⟩
        case measure => simp [intOf]; omega
    · have hkn : k = ms.length := by omega
      subst hkn
      rw [List.take_length] at hown
      have HO : Hid (wr.ownsRow w.heap.size 29 1 u3 (runs ms fl).length ((runs ms fl).map ptrTo)) := hown
      obtain ⟨ao', cap', rfl⟩ := owns_slice hown
      clear hown
      go_wp2
      refine leaves_cons (f := 16) (args := #[.pointer (some ⟨fb, 14, Option.none⟩)]) (by simp) (by simp [go_sem]) ?_
      refine (unlock_deferred Try.muLib ⟨fb, 14, Option.none⟩ .returning _ ?_ ?_).mono ?_
      · rw [hbel.cell (by exact s5)]; exact World.cell?_setCell_same w ⟨fb, 14, Option.none⟩ (.int .i32 1) hc0
      · rw [hbel.frozen (by exact s5)]; simp [hf0]
      rintro e u' w'' ⟨rfl, rfl, rfl⟩
      refine ⟨_, results_tmp rfl _ _ _, _, rfl, ?_, ?_⟩
      · exact ownsRow_setCell_below HO.out (by exact s5) _
      · exact started_below hbel HB.out.1 HB.out.2 s5
end Go.Proofs.Qxb6616784a
