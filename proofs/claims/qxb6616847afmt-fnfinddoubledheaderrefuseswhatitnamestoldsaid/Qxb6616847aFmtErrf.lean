import Derived.Test.Qxb6616847aFmtClone
import Derived.Stop.CallBack
import Derived.Stop.IfaceNil
namespace Go.Proofs.Qxb6616847aFmt
open Go.RowKit Go.Extern.Stop Go.Stop Go.Extern

theorem call25 (args : Array Value) (w : World) : (callFunc 25 args).run Tryf.prog w = ((FmtStop.errorf #[9, 48] #[30] args).run Tryf.prog w).andThen fun v w' => .ok (.value v) w' :=
  run_callFunc_extern Tryf.func25 (by kernel_rfl) (by kernel_rfl) (by kernel_rfl) (by kernel_rfl) args w
theorem guard_ok (name : String) (w : World) : (FmtStop.guard name).run Tryf.prog w = .ok () w := by kernel_rfl

def fm1 : ByteArray := ⟨#[116, 104, 101, 32, 104, 101, 97, 100, 101, 114, 32, 110, 97, 109, 101, 115, 32, 99, 111, 108, 117, 109, 110, 32, 37, 113, 32, 116, 119, 105, 99, 101]⟩
def fm2 : ByteArray := ⟨#[37, 115, 58, 37, 100, 58, 32, 37, 119]⟩
theorem fm1r (w : World) : (FmtDoors.printed fm1 1).run Tryf.prog w = .ok [(0, 113, false)] w := by kernel_rfl
theorem fm2r (w : World) : (FmtDoors.printed fm2 3).run Tryf.prog w = .ok [(0, 115, false), (1, 100, false), (2, 119, false)] w := by kernel_rfl

def shape9 : List UInt8 := [12, 6, 0, 0, 0, 0, 0, 0, 0, 115, 116, 114, 105, 110, 103]
def shape3 : List UInt8 := [5, 3, 0, 0, 0, 0, 0, 0, 0, 105, 110, 116]
theorem op9q (name : String) (x : ByteArray) (w : World) : (FmtStop.operand name true 113 false (.iface 9 (.string x))).run Tryf.prog w = .ok (shape9, FmtStop.pack x.data.toList) w := by kernel_rfl
theorem op9s (name : String) (x : ByteArray) (w : World) : (FmtStop.operand name true 115 false (.iface 9 (.string x))).run Tryf.prog w = .ok (shape9, FmtStop.pack x.data.toList) w := by kernel_rfl
theorem op3d (name : String) (x : Int) (w : World) : (FmtStop.operand name true 100 false (.iface 3 (.int .i64 x))).run Tryf.prog w = .ok (shape3, Go.Extern.Stop.digits 8 (x % 2 ^ 64).toNat) w := by kernel_rfl
def plain52 : List UInt8 := 14 :: FmtStop.pack "*errors.errorString".toUTF8.data.toList
theorem op52w (name : String) (a : Addr) (s : ByteArray) (w : World) (hc : w.cell? a = some (.string s)) :
    (FmtStop.operand name true 119 false (.iface 52 (.pointer (some a)))).run Tryf.prog w = .ok (plain52, s.data.toList) w := by
  have h1 : (typeStr 52).run Tryf.prog w = .ok "*errors.errorString" w := by kernel_rfl
  have d2 : Tryf.t52.desc = .pointer 54 := rfl
  have d3 : Tryf.t54.desc = .named "errors.errorString" 53 := rfl
  simp [FmtStop.operand, h1, d2, d3, run_load, hc, plain52]
theorem ptr52 (w : World) : (FmtStop.ptrTo "errors.errorString").run Tryf.prog w = .ok 52 w := by kernel_rfl
theorem elem52 (w : World) : (elemOf 52).run Tryf.prog w = .ok 54 w := by kernel_rfl
theorem isErr52 (w : World) : (FmtDoors.textMethod 52 "Error").run Tryf.prog w = .ok true w := by kernel_rfl
theorem ptr51 (w : World) : (FmtStop.ptrTo "fmt.wrapError").run Tryf.prog w = .ok 51 w := by kernel_rfl
theorem elem51 (w : World) : (elemOf 51).run Tryf.prog w = .ok 81 w := by kernel_rfl

theorem new_one (w : World) (v : Value) (t : TypeId) : (w.alloc (.cells #[v] t)).drew.cell? ⟨w.heap.size, 0, Option.none⟩ = some v := cell_of_one (heap_alloc_new w _)

set_option maxRecDepth 1000000 in
set_option maxHeartbeats 400000 in
/-- fmt.Errorf at "the header names column %q twice" -/
theorem errf1 (col : ByteArray) (blk : Nat) (w : World) (hc0 : w.cell? ⟨blk, 0, Option.none⟩ = some (.iface 9 (.string col))) :
    Calls Tryf.prog 24 #[.string fm1, .slice (some ⟨blk, 0, Option.none⟩) 1 1] w fun e w' => ∃ (p : Nat) (s : ByteArray), e = .returned (.iface 52 (.pointer (some ⟨p, 0, Option.none⟩))) ∧ w'.cell? ⟨p, 0, Option.none⟩ = some (.string s) ∧ Below w.heap.size w w' := by
  have a1 := call25
  have a2 := guard_ok
  have a3 := fm1r
  have a4 := op9q
  have a5 := ptr52
  have a6 := elem52
  unfold fm1 at *
  go_enter Tryf.func24, Tryf.ntmps24
  go_wp2
  go_ret
  exact ⟨w.heap.size, _, rfl, new_one w _ _, ((Below.refl _ _).alloc (Nat.le_refl _) _).drew⟩

set_option maxRecDepth 1000000 in
set_option maxHeartbeats 400000 in
/-- fmt.Errorf at "%s:%d: %w" -/
theorem errf2 (nm s : ByteArray) (line : Int) (p blk : Nat) (w : World) (hc0 : w.cell? ⟨blk, 0, Option.none⟩ = some (.iface 9 (.string nm))) (hc1 : w.cell? ⟨blk, 1, Option.none⟩ = some (.iface 3 (.int .i64 line)))
    (hc2 : w.cell? ⟨blk, 2, Option.none⟩ = some (.iface 52 (.pointer (some ⟨p, 0, Option.none⟩)))) (hcp : w.cell? ⟨p, 0, Option.none⟩ = some (.string s)) :
    Calls Tryf.prog 24 #[.string fm2, .slice (some ⟨blk, 0, Option.none⟩) 3 3] w fun e w' => ∃ (t : TypeId) (x : Value), e = .returned (.iface t x) ∧ Below w.heap.size w w' := by
  have a1 := call25
  have a2 := guard_ok
  have a3 := fm2r
  have a4 := op9s
  have a4' := op3d
  have a4'' := fun name w' hc => op52w name ⟨p, 0, Option.none⟩ s w' hc
  have a5 := ptr51
  have a6 := elem51
  have a7 := isErr52
  unfold fm2 at *
  go_enter Tryf.func24, Tryf.ntmps24
  go_wp2
  go_ret
  exact ⟨_, _, rfl, ((Below.refl _ _).alloc (Nat.le_refl _) _).drew⟩
end Go.Proofs.Qxb6616847aFmt
