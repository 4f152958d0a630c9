import Derived.Test.Qxb6616784aRows
import Derived.Test.Qxb6616784aLocks
import Derived.Test.Qxb6616784aMem
import Derived.WalkKit
namespace Go.Proofs.Qxb6616784a
open Go.RowKit

set_option maxHeartbeats 400000 in
theorem zz_yes (ao : Option Addr) (len cap : Nat) (w : World) (h : len ≤ 1048576) :
    Calls Try.prog 4 #[.slice ao len cap] w fun e w' => e = .returned (.bool true) ∧ w' = w := by
  go_enter Try.func4, Try.ntmps4
  go_wp2
  go_ret
  exact ⟨rfl, rfl⟩

set_option maxHeartbeats 400000 in
theorem zz_no (ao : Option Addr) (len cap : Nat) (w : World) (h : 1048576 < len) :
    Calls Try.prog 4 #[.slice ao len cap] w fun e w' => e = .returned (.bool false) ∧ w' = w := by
  go_enter Try.func4, Try.ntmps4
  go_wp2
  go_ret
  exact ⟨rfl, rfl⟩

/-- ZZmembersLen. -/
theorem mlen_any (fb : Nat) (ao : Option Addr) (n cap : Nat) (w : World) (h : w.cell? ⟨fb, 16, none⟩ = some (.slice ao n cap)) :
    Calls Try.prog 11 #[.pointer (some ⟨fb, 0, none⟩)] w fun e w' => e = .returned (.int .i64 n) ∧ w' = w := by
  go_enter Try.func11, Try.ntmps11
  go_wp2
  go_ret
  exact ⟨rfl, rfl⟩

/-- ZZmemberAt. -/
theorem mat_any (fb g : Nat) (n cap i : Nat) (v : Value) (w : World) (h : w.cell? ⟨fb, 16, none⟩ = some (.slice (some ⟨g, 0, none⟩) n cap)) (hi : i < n) (hv : w.cell? ⟨g, i, none⟩ = some v) :
    Calls Try.prog 10 #[.pointer (some ⟨fb, 0, none⟩), .int .i64 i] w fun e w' => e = .returned v ∧ w' = w := by
  go_enter Try.func10, Try.ntmps10
  go_wp2
  go_ret
  exact ⟨rfl, rfl⟩

theorem Try.info47 : (Try.prog.info? 47).map (fun i => (i.zero, i.size, i.bytes)) = some (some (.agg #[]), 0, 0) := by kernel_rfl
theorem mkchan (w : World) : (Instr.makeChan 54 (.int .i64 0)).run Try.prog w = .ok (.chan (some w.heap.size)) (w.alloc (.chan 0 #[] false 0 0 false)) := by
  obtain ⟨i, hi, _, _, _⟩ := info_parts Try.info47
  simp [Instr.makeChan, asInt, asIntOf, run_underlying Try.underlying54, typeInfo, hi, IntKind.max, IntKind.bits, IntKind.signed]


def ptrTo (m : Nat) : Value := .pointer (some ⟨m, 0, Option.none⟩)

/-- Block m is a member; it was run, or not. -/
def MemB (w : World) (m : Nat) (run : Bool) : Prop :=
  ∃ cs c, w.heap[m]? = some (.cells cs 66 (0, 0)) ∧ cs.size = 9 ∧ cs[7]? = some (.chan c) ∧ c.isSome = run

/-- Block fb is a factory: its lock free, its members the blocks ms, run as fl says. -/
structure Fac (w : World) (base fb : Nat) (sv : Value) (ms : List Nat) (fl : List Bool) : Prop where
  blk : ∃ cs, w.heap[fb]? = some (.cells cs 61 (0, 0)) ∧ cs.size = 21 ∧ cs[14]? = some (.int .i32 0) ∧ cs[16]? = some sv
  own : w.ownsRow base 29 1 sv ms.length (ms.map ptrTo)
  len : ms.length = fl.length
  nodup : ms.Nodup
  mem : ∀ i m, ms[i]? = some m → base ≤ m ∧ MemB w m (fl.getD i false)
  fbase : base ≤ fb

theorem newf_below (w : World) (a b c : Obj) : Below w.heap.size w (((w.alloc a).alloc b).alloc c).drew :=
  ((((Below.refl _ _).alloc (Nat.le_refl _) _).alloc (by simp) _).alloc (by simp; omega) _).drew
theorem newf_fac (w : World) (base : Nat) (hb : base ≤ w.heap.size) (a b : Obj) (cs : Array Value) (h1 : cs.size = 21) (h2 : cs[14]? = some (.int .i32 0)) (h3 : cs[16]? = some (.slice Option.none 0 0)) :
    Fac (((w.alloc a).alloc b).alloc (.cells cs 61)).drew base (w.heap.size + 1 + 1) (.slice Option.none 0 0) [] [] := by
  refine ⟨⟨cs, ?_, h1, h2, h3⟩, World.ownsRow_nil _ _ _ _, rfl, by simp, fun i m h => by simp at h, by omega⟩
  have := heap_alloc_new ((w.alloc a).alloc b) (.cells cs 61)
  simpa [heap_drew] using this

set_option maxHeartbeats 400000 in
/-- ZZnewFactory. -/
theorem newf_any (w : World) (base : Nat) (hb : base ≤ w.heap.size) :
    Calls Try.prog 12 #[] w fun e w' => ∃ fb, e = .returned (ptrTo fb) ∧ Fac w' base fb (.slice Option.none 0 0) [] [] ∧ Below w.heap.size w w' := by
  have hmk := mkchan
  go_enter Try.func12, Try.ntmps12
  go_wp2
  go_region
  all_goals go_wp2
  all_goals go_ret
  all_goals exact ⟨w.heap.size + 1 + 1, rfl, newf_fac w base hb _ _ _ (by rfl) (by rfl) (by rfl), newf_below w _ _ _⟩

end Go.Proofs.Qxb6616784a
