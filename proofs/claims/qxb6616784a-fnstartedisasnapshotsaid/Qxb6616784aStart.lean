import Derived.Test.Qxb6616784aAdd
import Derived.Laws.EntriesVeiled
namespace Go.Proofs.Qxb6616784a
open Go.RowKit

theorem Fac.at {w : World} {base fb : Nat} {sv : Value} {ms : List Nat} {fl : List Bool} (h : Fac w base fb sv ms fl) {i : Nat} (hi : i < ms.length) :
    ∃ g cap m c, sv = .slice (some ⟨g, 0, Option.none⟩) ms.length cap ∧ ms[i]? = some m ∧ w.cell? ⟨fb, 16, Option.none⟩ = some sv ∧ w.cell? ⟨g, i, Option.none⟩ = some (ptrTo m) ∧
      w.cell? ⟨m, 7, Option.none⟩ = some (.chan c) ∧ w.frozen? ⟨m, 7, Option.none⟩ = false ∧ c.isSome = fl.getD i false ∧ g < w.heap.size ∧ m < w.heap.size ∧ fb < w.heap.size := by
  obtain ⟨s1, s2, s3, s4, s5⟩ := h.sep
  obtain ⟨cs, hblk, hsz, hc14, hc16⟩ := h.blk
  obtain ⟨g, cap, hsv⟩ := owns_shape h.own (by omega)
  have him : ms[i]? = some ms[i] := List.getElem?_eq_getElem hi
  obtain ⟨_, mcs, c, q1, q2, q3, q4⟩ := h.mem i _ him
  refine ⟨g, cap, ms[i], c, hsv, him, ?_, ?_, ?_, frozen_of_row _ _ _ _ _ q1, q4, (s3 g (by rw [hsv]; rfl)).2, lt_of_block q1, s5⟩
  · rw [cell_of_row _ _ _ _ _ _ hblk]; exact hc16
  · have := h.own
    rw [hsv] at this
    rw [this.cellAt i (by omega)]
    simp [him]
  · rw [cell_of_row _ _ _ _ _ _ q1]; exact q3

theorem start_fac (w : World) (base fb : Nat) (sv : Value) (ms : List Nat) (fl : List Bool) (hF : Fac w base fb sv ms fl) (o : Obj) (i m c : Nat) (him : ms[i]? = some m) :
    Fac ((w.setCell ⟨m, 7, Option.none⟩ (.chan (some c))).alloc o).drew base fb sv ms (fl.set i true) ∧ Fr (fun k => k = m) w ((w.setCell ⟨m, 7, Option.none⟩ (.chan (some c))).alloc o).drew := by
  obtain ⟨s1, s2, s3, s4, s5⟩ := hF.sep
  have hm : m ∈ ms := List.mem_of_getElem? him
  have fr : Fr (fun k => k = m) w ((w.setCell ⟨m, 7, Option.none⟩ (.chan (some c))).alloc o).drew :=
    ((Fr.setCell (S := fun k => k = m) w ⟨m, 7, Option.none⟩ _ rfl).trans (Fr.alloc (fun k => k = m) _ o) (fun _ _ h => h)).trans (Fr.drew (fun k => k = m) _) (fun _ _ h => h)
  refine ⟨⟨?_, ?_, by simp [hF.len], hF.nodup, ?_, hF.fbase⟩, fr⟩
  · obtain ⟨cs, hblk, r⟩ := hF.blk
    exact ⟨cs, blk_fr fr hblk (fun e => (s2 m hm).1 e.symm), r⟩
  · exact owns_fr fr hF.own (fun k hk e => (s2 m hm).2 (by rw [← e]; exact hk))
  · intro j m' hj
    obtain ⟨q1, q2⟩ := hF.mem j m' hj
    refine ⟨q1, ?_⟩
    by_cases e : j = i
    · subst e
      rw [him] at hj; simp at hj; subst hj
      obtain ⟨mcs, c0, p1, p2, p3, p4⟩ := q2
      have hlt : j < fl.length := by rw [← hF.len]; exact (List.getElem?_eq_some_iff.1 him).1
      have hb : ((w.setCell ⟨m, 7, Option.none⟩ (.chan (some c))).alloc o).drew.heap[m]? = some (.cells (mcs.setIfInBounds 7 (.chan (some c))) 66 (0, 0)) := by
        rw [heap_drew, Below.heap_alloc _ _ _ (by simpa using s4 m hm)]; exact heap_setCell_same _ m 7 mcs 66 _ p1
      refine ⟨_, some c, hb, by simp [p2], ?_, ?_⟩
      · rw [Array.getElem?_setIfInBounds_self_of_lt (by omega)]
      · simp [List.getD, hlt]
    · have hne : m' ≠ m := by
        intro e'
        subst e'
        obtain ⟨hl1, e1⟩ := List.getElem?_eq_some_iff.1 hj
        obtain ⟨hl2, e2⟩ := List.getElem?_eq_some_iff.1 him
        exact e ((List.getElem_inj hF.nodup).1 (e1.trans e2.symm))
      have hg : (fl.set i true).getD j false = fl.getD j false := by
        simp [List.getD, List.getElem?_set_ne (Ne.symm e)]
      rw [hg]
      exact q2.fr fr hne

set_option maxRecDepth 100000 in
set_option maxHeartbeats 800000 in
/-- ZZstart. -/
theorem start_any (w : World) (base fb : Nat) (sv : Value) (ms : List Nat) (fl : List Bool) (hF : Fac w base fb sv ms fl) (i : Nat) (hi : i < ms.length) :
    Calls Try.prog 9 #[ptrTo fb, .int .i64 i] w fun e w' => e = .returned (.tuple #[]) ∧ Fac w' base fb sv ms (fl.set i true) ∧ Fr (fun k => ms[i]? = some k) w w' := by
  obtain ⟨g, cap, m, c, hsv, him, c1, c2, c3, c4, _, l1, l2, l3⟩ := hF.at hi
  have HF : Hid (Fac w base fb sv ms fl) := hF
  have HM : Hid (ms[i]? = some m) := him
  clear hF him
  subst hsv
  have c5 : (w.alloc (.chan 0 #[] false 0 0 false)).cell? ⟨m, 7, Option.none⟩ = some (.chan c) := by rw [World.cell?_of_block (w := w) (Below.heap_alloc _ _ _ l2)]; exact c3
  have c6 : (w.alloc (.chan 0 #[] false 0 0 false)).frozen? ⟨m, 7, Option.none⟩ = false := by rw [World.frozen?_of_block (w := w) (Below.heap_alloc _ _ _ l2)]; exact c4
  have hmk := mkchan
  unfold ptrTo at *
  go_enter Try.func9, Try.ntmps9
  go_region
  all_goals go_end0
  all_goals
    have R := start_fac w base fb _ ms fl HF.out (.chan 0 #[] false 0 0 false) i m w.heap.size HM.out
    exact ⟨rfl, R.1, by rw [HM.out]; exact R.2.mono (fun k _ e => by rw [e])⟩
end Go.Proofs.Qxb6616784a
