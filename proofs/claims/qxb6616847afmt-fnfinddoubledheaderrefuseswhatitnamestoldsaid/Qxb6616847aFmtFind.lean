import Derived.Test.Qxb6616847aFmtErrf
import Derived.Deep.RegionWith
namespace Go.Proofs.Qxb6616847aFmt
open Go.RowKit Go.Extern.Stop Go.Stop Go.Extern

theorem three_new (w : World) (a b c : Value) (t : TypeId) : (w.alloc (.cells #[a, b, c] t)).cell? ⟨w.heap.size, 0, Option.none⟩ = some a ∧ (w.alloc (.cells #[a, b, c] t)).cell? ⟨w.heap.size, 1, Option.none⟩ = some b ∧ (w.alloc (.cells #[a, b, c] t)).cell? ⟨w.heap.size, 2, Option.none⟩ = some c := by
  refine ⟨?_, ?_, ?_⟩ <;> (rw [cell_of_row _ _ _ _ _ _ (heap_alloc_new w _)]; rfl)
theorem old_cell {w : World} {p : Nat} {v : Value} (h : w.cell? ⟨p, 0, Option.none⟩ = some v) (o : Obj) : (w.alloc o).cell? ⟨p, 0, Option.none⟩ = some v := by
  rw [World.cell?_of_block (w := w) (Below.heap_alloc _ _ _ (block_lt_of_cell h))]; exact h

set_option maxRecDepth 1000000 in
set_option maxHeartbeats 1000000 in
/-- (Place).Errorf -/
theorem perr_any (nm col : ByteArray) (line : Int) (blk : Nat) (w : World) (hc0 : w.cell? ⟨blk, 0, Option.none⟩ = some (.iface 9 (.string col))) :
    Calls Tryf.prog 23 #[.agg #[.string nm, .int .i64 line], .string fm1, .slice (some ⟨blk, 0, Option.none⟩) 1 1] w fun e w' => ∃ (t : TypeId) (x : Value), e = .returned (.iface t x) ∧ Below w.heap.size w w' := by
  have hbl : blk < w.heap.size := block_lt_of_cell hc0
  go_enter Tryf.func23, Tryf.ntmps23
  go_wp2
  go_region_with (first
    | (go_at_call_of 24 (Value.string fm1); refine (errf1 col blk _ ?_).mono ?_; go_simp; rintro e w' ⟨p, s, rfl, hp, hb⟩; have HP := hid hp; have HB := hid hb; have q0 : w'.cell? ⟨w.heap.size, 0, Option.none⟩ = some (.string nm) := (hb.cell (by simp)).trans (by go_simp); have q1 : w'.cell? ⟨w.heap.size, 1, Option.none⟩ = some (.int .i64 line) := (hb.cell (by simp)).trans (by go_simp); clear hp hb)
    | (go_at_call_of 24 (Value.string { data := #[37, 115, 58, 37, 100, 58, 32, 37, 119] }); refine (errf2 nm s line p _ _ (three_new _ _ _ _ _).1 (three_new _ _ _ _ _).2.1 (three_new _ _ _ _ _).2.2 (old_cell HP.out _)).mono ?_; rintro e2 w2 ⟨t, x, rfl, hb2⟩))
  all_goals
    have b1 : Below w.heap.size w w' := (((Below.refl w.heap.size w).alloc (Nat.le_refl _) _).drew).trans (HB.out.mono (by simp))
    have B2 := hid ((b1.alloc b1.size _).trans (hb2.mono (by have := b1.size; simp; omega)))
    clear HB HP hb2 b1 q0 q1
    go_wp2
    go_ret
    exact ⟨t, x, rfl, B2.out⟩
end Go.Proofs.Qxb6616847aFmt
