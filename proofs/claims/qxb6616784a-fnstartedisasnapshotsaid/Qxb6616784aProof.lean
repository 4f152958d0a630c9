import Derived.Test.Qxb6616784aLaw
import Derived.ProofKit
import Derived.OpenShut
import Derived.ShutString
import Derived.ChangeOld
import Derived.Deep.Grids
namespace Go.Proofs.Qxb6616784a
open Go.ChangeShapes Go.WideShapes Go.ChangeAt Go.RowKit Go.Deep

theorem own : ownKnob Try.prog.godebug = Option.none := by kernel_rfl
theorem laidOut : laidOutB Try.prog = true := by kernel_rfl

theorem walk (w : World) (mo : Option Addr) (n mc : Nat) (ml : List Bool) (hn : ml.length = n) (hM : Marks w mo ml) :
    Calls Try.prog 3 #[.slice mo n mc] w fun e w' => e = .returned (.bool true) ∧ Below w.heap.size w w' := by
  subst hn
  by_cases h1 : ml.length ≤ 1048576
  · by_cases h2 : ml.length ≤ 65536
    · exact law_main w mo mc ml hM h2
    · exact law_long w mo _ mc h1 (by omega)
  · exact law_far w mo _ mc (by omega)

theorem marks_of (w : World) (a : Addr) (len cap : Nat) (B : Nat → Bool) (hl : len ≤ cap) (h : ∀ i, i < cap → w.cell? (a.add i) = some (.bool (B i))) : Marks w (some a) ((List.range len).map B) := by
  intro j hj
  simp at hj
  obtain ⟨b, off, spot⟩ := a
  have hspot : spot = Option.none := by simpa [Addr.add] using World.cell?_spot (h 0 (by omega))
  subst hspot
  have hc := h j (by omega)
  rw [Addr.add_lit] at hc
  exact ⟨b, off, rfl, block_lt_of_cell hc, by rw [hc]; simp [List.getD, hj]⟩

set_option maxRecDepth 100000 in
theorem lifted (os : Os) (started : os.Started) (H : Type) (enc : TypeId × Value → H) :
    ReturnsInHanded {} Try.checked os 3 .any (Rows.fnStartedIsASnapshotSpec.pre6 enc Try.prog Try.f3 Rows.fnStartedIsASnapshotRow.domain false) (Rows.fnStartedIsASnapshotSpec.post enc Try.prog Try.f3 false true false false) := by
  refine returnsInHanded_of_change (C := Try.checked) own started (by kernel_rfl) Try.func3
    (ChangeSpec.witness6 (enc := enc) (C := Try.checked) false ⟨#[], #[.slice Option.none 0 0], []⟩ 8 (by kernel_rfl) (by kernel_rfl) (by kernel_rfl) (by kernel_rfl)) ?_
  intro W base args ds gs before hval0 hW hcnd _
  have hval : ∀ (j : Nat) t v, Try.f3.params[j]? = some t → args[j]? = some v → Value.okWide Try.prog W .any base t v := hval0
  have hW' := hW
  obtain ⟨p, q, hA0, hV, rfl, hfz, hnd⟩ := hW
  have hA : DataW.TrodAll enc Try.prog W 0 (fun _ => true) true Try.f3.params.toList args.toList ds p := hA0
  rw [Try.params3] at hA hval
  obtain ⟨v0, vs0, d0, ds0, p0, q0, hargs, rfl, rfl, h0, r0⟩ := trodAll_cons hA
  obtain ⟨rfl, rfl, rfl⟩ := trodAll_nil r0
  obtain rfl : args = #[v0] := by cases args; simp_all
  obtain ⟨rfl, rfl⟩ := trodVars_none hV
  obtain ⟨a0, len0, cap0, rfl⟩ := okWide_slice Try.underlying22 (hval 0 22 v0 rfl rfl)
  have k0 := h0
  have lt0 : ∀ x ∈ p0, x.block < W.heap.size := by obtain ⟨m, hm⟩ := k0; exact DataW.trod_lt m _ _ _ hm
  obtain ⟨ml, hml, hM⟩ : ∃ ml : List Bool, ml.length = len0 ∧ Marks W a0 ml := by
    obtain ⟨fuel, hf⟩ := h0
    rcases open_bools Try.underlying22 Try.underlying4 (by kernel_rfl) hf with ⟨hcs, _⟩ | ⟨x, l, c, B, hcs, _, hl, hm, _, hcell⟩
    · simp [Value.cells] at hcs
      obtain ⟨rfl, rfl, rfl⟩ := hcs
      exact ⟨[], rfl, fun j hj => by simp at hj⟩
    · simp [Value.cells] at hcs
      obtain ⟨rfl, rfl, rfl⟩ := hcs
      exact ⟨(List.range len0).map B, by simp, marks_of W x len0 cap0 B hl hcell⟩
  clear hA0 hval0
  refine (walk W a0 len0 cap0 ml hml hM).mono fun e W' ⟨he, bel⟩ => ?_
  subst he
  exact ⟨_, rfl, _, _, _, [], _, [], hW', trodAll_mk1 (shut_bool Try.underlying4 _), (trodAll_cons_mk (Below.trod laidOut (by kernel_rfl) (of_decide_eq_true (by kernel_rfl)) k0 bel lt0) trodAll_mk0), rfl, bel.frame _, fun h => by cases h⟩

theorem over : Rows.fnStartedIsASnapshotRow.holds Try.pinned (OpenSpec.ofChange Rows.fnStartedIsASnapshotSpec) :=
  OpenClaim.holds_of_wide 3 Try.f3 rfl rfl rfl rfl rfl rfl rfl ⟨rfl, rfl, rfl, rfl, rfl⟩ rfl rfl rfl rfl rfl (by kernel_rfl) Try.func3 (by kernel_rfl)
    (of_decide_eq_true (by kernel_rfl)) (by unfold Func.isWrapper; first | (rw [if_pos (by decide +kernel)]; kernel_rfl) | (rw [if_neg (by decide +kernel)]; exact ⟨rfl, rfl⟩))
    (fun os started H enc _ => lifted os started H enc)

theorem started_is_a_snapshot : Rows.FnStartedIsASnapshotSaid := over
end Go.Proofs.Qxb6616784a
