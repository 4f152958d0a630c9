import Derived.Test.Qxb6617177aCutsAll
import Derived.ProofKit
import Derived.OpenShut
import Derived.ShutString
import Derived.ChangeOld
import Derived.Deep.Grids
import Derived.SliceStrings
namespace Go.Proofs.Qxb6617177a.PrC
open Go.ChangeShapes Go.WideShapes Go.ChangeAt Go.RowKit Go.Deep
open Go.ChangeMaps (open_string shut_string)

theorem own : ownKnob Try.prog.godebug = Option.none := by kernel_rfl
theorem laidOut : laidOutB Try.prog = true := by kernel_rfl

theorem strs_of (w : World) (a : Addr) (len cap : Nat) (ss : List ByteArray) (hl : len ≤ cap) (hz : ss.length = cap) (h : ∀ i, i < ss.length → w.cell? (a.add i) = some (.string (ss.getD i ByteArray.empty))) (hs : ∀ s ∈ ss, s.size ≤ maxLen) : Strs w (some a) (ss.take len) := by
  refine ⟨fun j hj => ?_, fun s hs' => hs s (List.mem_of_mem_take hs')⟩
  simp at hj
  obtain ⟨b, off, spot⟩ := a
  have hspot : spot = Option.none := by simpa [Addr.add] using World.cell?_spot (h 0 (by omega))
  subst hspot
  have hc := h j (by omega)
  rw [Addr.add_lit] at hc
  exact ⟨b, off, rfl, block_lt_of_cell hc, by rw [hc]; simp [List.getD, List.getElem?_take_of_lt (show j < len by omega)]⟩

set_option maxRecDepth 100000 in
theorem lifted (os : Os) (started : os.Started) (H : Type) (enc : TypeId × Value → H) :
    ReturnsInHanded {} Try.checked os 3 .any (Rows.fnSelectsCutsAndInsertsSpec.pre6 enc Try.prog Try.f3 Rows.fnSelectsCutsAndInsertsRow.domain false) (Rows.fnSelectsCutsAndInsertsSpec.post enc Try.prog Try.f3 false true false false) := by
  refine returnsInHanded_of_change (C := Try.checked) own started (by kernel_rfl) Try.func3
    (ChangeSpec.witness6 (enc := enc) (C := Try.checked) false ⟨#[], #[.slice Option.none 0 0, .slice Option.none 0 0, .int .i64 0, .int .i64 0, .int .i64 0], []⟩ 8 (by kernel_rfl) (by kernel_rfl) (by kernel_rfl) (by kernel_rfl)) ?_
  intro W base args ds gs before hval0 hW hcnd _
  have hval : ∀ (j : Nat) t v, Try.f3.params[j]? = some t → args[j]? = some v → Value.okWide Try.prog W .any base t v := hval0
  have hW' := hW
  obtain ⟨p, q, hA0, hV, rfl, hfz, hnd⟩ := hW
  have hA : DataW.TrodAll enc Try.prog W 0 (fun _ => true) true Try.f3.params.toList args.toList ds p := hA0
  rw [Try.params3] at hA hval
  obtain ⟨v0, vs0, d0, ds0, p0, q0, hargs, rfl, rfl, h0, r0⟩ := trodAll_cons hA
  obtain ⟨v1, vs1, d1, ds1, p1, q1, rfl, rfl, rfl, h1, r1⟩ := trodAll_cons r0
  obtain ⟨v2, vs2, d2, ds2, p2, q2, rfl, rfl, rfl, h2, r2⟩ := trodAll_cons r1
  obtain ⟨v3, vs3, d3, ds3, p3, q3, rfl, rfl, rfl, h3, r3⟩ := trodAll_cons r2
  obtain ⟨v4, vs4, d4, ds4, p4, q4, rfl, rfl, rfl, h4, r4⟩ := trodAll_cons r3
  obtain ⟨rfl, rfl, rfl⟩ := trodAll_nil r4
  obtain rfl : args = #[v0, v1, v2, v3, v4] := by cases args; simp_all
  obtain ⟨rfl, rfl⟩ := trodVars_none hV
  obtain ⟨a0, len0, cap0, rfl⟩ := okWide_slice Try.underlying22 (hval 0 22 v0 rfl rfl)
  have k0 := h0
  have lt0 : ∀ x ∈ p0, x.block < W.heap.size := by obtain ⟨m, hm⟩ := k0; exact DataW.trod_lt m _ _ _ hm
  obtain ⟨l0, e0, m0, x0, n0⟩ : ∃ sl : List ByteArray, sl.length = len0 ∧ Strs W a0 sl ∧ len0 ≤ maxLen ∧ len0 ≤ cap0 := by
    obtain ⟨fuel, hf⟩ := h0
    rcases open_strings Try.underlying22 Try.underlying9 (by kernel_rfl) hf with ⟨hcs, _⟩ | ⟨x, l, c, ss, hcs, _, hl, hm, hz, _, hcell, hws⟩
    · simp [Value.cells] at hcs
      obtain ⟨rfl, rfl, rfl⟩ := hcs
      exact ⟨[], rfl, ⟨fun j hj => by simp at hj, fun s hs => by simp at hs⟩, Nat.zero_le _, Nat.zero_le _⟩
    · simp [Value.cells] at hcs
      obtain ⟨rfl, rfl, rfl⟩ := hcs
      have hz' : ss.length = cap0 := by simpa using hz
      exact ⟨ss.take len0, by simp; omega, strs_of W x len0 cap0 ss hl hz' hcell hws, Nat.le_trans hl hm, hl⟩
  subst e0
  obtain ⟨a1, len1, cap1, rfl⟩ := okWide_slice Try.underlying22 (hval 1 22 v1 rfl rfl)
  have k1 := h1
  have lt1 : ∀ x ∈ p1, x.block < W.heap.size := by obtain ⟨m, hm⟩ := k1; exact DataW.trod_lt m _ _ _ hm
  obtain ⟨l1, e1, m1, x1, n1⟩ : ∃ sl : List ByteArray, sl.length = len1 ∧ Strs W a1 sl ∧ len1 ≤ maxLen ∧ len1 ≤ cap1 := by
    obtain ⟨fuel, hf⟩ := h1
    rcases open_strings Try.underlying22 Try.underlying9 (by kernel_rfl) hf with ⟨hcs, _⟩ | ⟨x, l, c, ss, hcs, _, hl, hm, hz, _, hcell, hws⟩
    · simp [Value.cells] at hcs
      obtain ⟨rfl, rfl, rfl⟩ := hcs
      exact ⟨[], rfl, ⟨fun j hj => by simp at hj, fun s hs => by simp at hs⟩, Nat.zero_le _, Nat.zero_le _⟩
    · simp [Value.cells] at hcs
      obtain ⟨rfl, rfl, rfl⟩ := hcs
      have hz' : ss.length = cap1 := by simpa using hz
      exact ⟨ss.take len1, by simp; omega, strs_of W x len1 cap1 ss hl hz' hcell hws, Nat.le_trans hl hm, hl⟩
  subst e1
  obtain ⟨z2, rfl, rfl, rfl, w2⟩ := open_int Try.underlying3 (hval 2 3 v2 rfl rfl) h2
  obtain ⟨z3, rfl, rfl, rfl, w3⟩ := open_int Try.underlying3 (hval 3 3 v3 rfl rfl) h3
  obtain ⟨z4, rfl, rfl, rfl, w4⟩ := open_int Try.underlying3 (hval 4 3 v4 rfl rfl) h4
  clear hA0 hval0
  refine (cuts_any W a0 a1 cap0 cap1 l0 l1 z2 z3 z4 m0 m1 x0 x1 n0 n1 (bounds_i64 w2) (bounds_i64 w3) (bounds_i64 w4)).mono fun e W' ⟨he, bel⟩ => ?_
  subst he
  exact ⟨_, rfl, _, _, _, [], _, [], hW', trodAll_mk1 (shut_bool Try.underlying4 _), (trodAll_cons_mk (Below.trod laidOut (by kernel_rfl) (of_decide_eq_true (by kernel_rfl)) k0 bel lt0) (trodAll_cons_mk (Below.trod laidOut (by kernel_rfl) (of_decide_eq_true (by kernel_rfl)) k1 bel lt1) (trodAll_cons_mk (shut_int Try.underlying3 w2) (trodAll_cons_mk (shut_int Try.underlying3 w3) (trodAll_cons_mk (shut_int Try.underlying3 w4) trodAll_mk0))))), rfl, bel.frame _, fun h => by cases h⟩

theorem over : Rows.fnSelectsCutsAndInsertsRow.holds Try.pinned (OpenSpec.ofChange Rows.fnSelectsCutsAndInsertsSpec) :=
  OpenClaim.holds_of_wide 3 Try.f3 rfl rfl rfl rfl rfl rfl rfl ⟨rfl, rfl, rfl, rfl, rfl⟩ rfl rfl rfl rfl rfl (by kernel_rfl) Try.func3 (by kernel_rfl)
    (of_decide_eq_true (by kernel_rfl)) (by unfold Func.isWrapper; first | (rw [if_pos (by decide +kernel)]; kernel_rfl) | (rw [if_neg (by decide +kernel)]; exact ⟨rfl, rfl⟩))
    (fun os started H enc _ => lifted os started H enc)

end Go.Proofs.Qxb6617177a.PrC
namespace Go.Proofs.Qxb6617177a
theorem selects_cuts_and_inserts : Rows.FnSelectsCutsAndInsertsSaid := PrC.over
end Go.Proofs.Qxb6617177a
