import Derived.Test.Qxb6617177aAcc
import Derived.ProofKit
import Derived.OpenShut
import Derived.ShutString
import Derived.ChangeOld
import Derived.Deep.Grids
import Derived.SliceStrings
namespace Go.Proofs.Qxb6617177a.PrA
open Go.ChangeShapes Go.WideShapes Go.ChangeAt Go.RowKit Go.Deep
open Go.ChangeMaps (open_string shut_string)

theorem own : ownKnob Try.prog.godebug = Option.none := by kernel_rfl
theorem laidOut : laidOutB Try.prog = true := by kernel_rfl

theorem strs_of (w : World) (a : Addr) (len cap : Nat) (ss : List ByteArray) (hl : len ≤ cap) (hz : ss.length = cap) (h : ∀ i, i < ss.length → w.cell? (a.add i) = some (.string (ss.getD i ByteArray.empty))) (hs : ∀ s ∈ ss, s.size ≤ maxLen) : Strs w (some a) (ss.take len) := by
  refine ⟨fun j hj => ?_, fun s hs' => hs s (List.mem_of_mem_take hs')⟩
  simp at hj
  obtain ⟨b, off, spot⟩ := a
  have hspot : spot = Option.none := by simpa [Addr.add] using World.cell?_spot (h 0 (by omega))
  subst hspot
  have hc := h j (by omega)
  rw [Addr.add_lit] at hc
  exact ⟨b, off, rfl, block_lt_of_cell hc, by rw [hc]; simp [List.getD, List.getElem?_take_of_lt (show j < len by omega)]⟩

set_option maxRecDepth 100000 in
theorem lifted (os : Os) (started : os.Started) (H : Type) (enc : TypeId × Value → H) :
    ReturnsInHanded {} Try.checked os 4 .any (Rows.fnSelectsAcceptsExactlyWhatItFindsSpec.pre6 enc Try.prog Try.f4 Rows.fnSelectsAcceptsExactlyWhatItFindsRow.domain false) (Rows.fnSelectsAcceptsExactlyWhatItFindsSpec.post enc Try.prog Try.f4 false true false false) := by
  refine returnsInHanded_of_change (C := Try.checked) own started (by kernel_rfl) Try.func4
    (ChangeSpec.witness6 (enc := enc) (C := Try.checked) false ⟨#[], #[.slice Option.none 0 0, .slice Option.none 0 0], []⟩ 8 (by kernel_rfl) (by kernel_rfl) (by kernel_rfl) (by kernel_rfl)) ?_
  intro W base args ds gs before hval0 hW hcnd _
  have hval : ∀ (j : Nat) t v, Try.f4.params[j]? = some t → args[j]? = some v → Value.okWide Try.prog W .any base t v := hval0
  have hW' := hW
  obtain ⟨p, q, hA0, hV, rfl, hfz, hnd⟩ := hW
  have hA : DataW.TrodAll enc Try.prog W 0 (fun _ => true) true Try.f4.params.toList args.toList ds p := hA0
  rw [Try.params4] at hA hval
  obtain ⟨v0, vs0, d0, ds0, p0, q0, hargs, rfl, rfl, h0, r0⟩ := trodAll_cons hA
  obtain ⟨v1, vs1, d1, ds1, p1, q1, rfl, rfl, rfl, h1, r1⟩ := trodAll_cons r0
  obtain ⟨rfl, rfl, rfl⟩ := trodAll_nil r1
  obtain rfl : args = #[v0, v1] := by cases args; simp_all
  obtain ⟨rfl, rfl⟩ := trodVars_none hV
  obtain ⟨a0, len0, cap0, rfl⟩ := okWide_slice Try.underlying22 (hval 0 22 v0 rfl rfl)
  have k0 := h0
  have lt0 : ∀ x ∈ p0, x.block < W.heap.size := by obtain ⟨m, hm⟩ := k0; exact DataW.trod_lt m _ _ _ hm
  obtain ⟨l0, e0, m0, x0, n0⟩ : ∃ sl : List ByteArray, sl.length = len0 ∧ Strs W a0 sl ∧ len0 ≤ maxLen ∧ len0 ≤ cap0 := by
    obtain ⟨fuel, hf⟩ := h0
    rcases open_strings Try.underlying22 Try.underlying9 (by kernel_rfl) hf with ⟨hcs, _⟩ | ⟨x, l, c, ss, hcs, _, hl, hm, hz, _, hcell, hws⟩
    · simp [Value.cells] at hcs
      obtain ⟨rfl, rfl, rfl⟩ := hcs
      exact ⟨[], rfl, ⟨fun j hj => by simp at hj, fun s hs => by simp at hs⟩, Nat.zero_le _, Nat.zero_le _⟩
    · simp [Value.cells] at hcs
      obtain ⟨rfl, rfl, rfl⟩ := hcs
      have hz' : ss.length = cap0 := by simpa using hz
      exact ⟨ss.take len0, by simp; omega, strs_of W x len0 cap0 ss hl hz' hcell hws, Nat.le_trans hl hm, hl⟩
  subst e0
  obtain ⟨a1, len1, cap1, rfl⟩ := okWide_slice Try.underlying22 (hval 1 22 v1 rfl rfl)
  have k1 := h1
  have lt1 : ∀ x ∈ p1, x.block < W.heap.size := by obtain ⟨m, hm⟩ := k1; exact DataW.trod_lt m _ _ _ hm
  obtain ⟨l1, e1, m1, x1, n1⟩ : ∃ sl : List ByteArray, sl.length = len1 ∧ Strs W a1 sl ∧ len1 ≤ maxLen ∧ len1 ≤ cap1 := by
    obtain ⟨fuel, hf⟩ := h1
    rcases open_strings Try.underlying22 Try.underlying9 (by kernel_rfl) hf with ⟨hcs, _⟩ | ⟨x, l, c, ss, hcs, _, hl, hm, hz, _, hcell, hws⟩
    · simp [Value.cells] at hcs
      obtain ⟨rfl, rfl, rfl⟩ := hcs
      exact ⟨[], rfl, ⟨fun j hj => by simp at hj, fun s hs => by simp at hs⟩, Nat.zero_le _, Nat.zero_le _⟩
    · simp [Value.cells] at hcs
      obtain ⟨rfl, rfl, rfl⟩ := hcs
      have hz' : ss.length = cap1 := by simpa using hz
      exact ⟨ss.take len1, by simp; omega, strs_of W x len1 cap1 ss hl hz' hcell hws, Nat.le_trans hl hm, hl⟩
  subst e1
  clear hA0 hval0
  refine (acc_any W a0 a1 cap0 cap1 l0 l1 m0 m1 x0 x1 n0 n1).mono fun e W' ⟨he, bel⟩ => ?_
  subst he
  exact ⟨_, rfl, _, _, _, [], _, [], hW', trodAll_mk1 (shut_bool Try.underlying4 _), (trodAll_cons_mk (Below.trod laidOut (by kernel_rfl) (of_decide_eq_true (by kernel_rfl)) k0 bel lt0) (trodAll_cons_mk (Below.trod laidOut (by kernel_rfl) (of_decide_eq_true (by kernel_rfl)) k1 bel lt1) trodAll_mk0)), rfl, bel.frame _, fun h => by cases h⟩

theorem over : Rows.fnSelectsAcceptsExactlyWhatItFindsRow.holds Try.pinned (OpenSpec.ofChange Rows.fnSelectsAcceptsExactlyWhatItFindsSpec) :=
  OpenClaim.holds_of_wide 4 Try.f4 rfl rfl rfl rfl rfl rfl rfl ⟨rfl, rfl, rfl, rfl, rfl⟩ rfl rfl rfl rfl rfl (by kernel_rfl) Try.func4 (by kernel_rfl)
    (of_decide_eq_true (by kernel_rfl)) (by unfold Func.isWrapper; first | (rw [if_pos (by decide +kernel)]; kernel_rfl) | (rw [if_neg (by decide +kernel)]; exact ⟨rfl, rfl⟩))
    (fun os started H enc _ => lifted os started H enc)

end Go.Proofs.Qxb6617177a.PrA
namespace Go.Proofs.Qxb6617177a
theorem selects_accepts_exactly_what_it_finds : Rows.FnSelectsAcceptsExactlyWhatItFindsSaid := PrA.over
end Go.Proofs.Qxb6617177a
