import Derived.Test.Qxb6616847aFmtZz
import Derived.Lib.SliceRun
namespace Go.Proofs.Qxb6616847aFmt
open Go.RowKit

theorem Tryf.info9 : (Tryf.prog.info? 9).map (fun i => (i.zero, i.size, i.bytes)) = some (some (.string ByteArray.empty), 1, 16) := by kernel_rfl

theorem eql_nil (w : World) (ao : Option Addr) (n c : Nat) : (binOp .eql 22 (.slice ao n c) (.slice Option.none 0 0)).run Tryf.prog w = .ok (.bool ao.isNone) w :=
  Lib.run_eql_slice_nil w 22 9 ao n c 0 0 Tryf.underlying22

theorem strs_nil {w : World} {sl : List ByteArray} (h : Strs w Option.none sl) : sl = [] := by
  rcases sl with _ | ⟨s, r⟩
  · rfl
  · obtain ⟨b, off, h1, _⟩ := h.1 0 (by simp)
    cases h1

/-- the strings of an owned row -/
theorem strs_of_owns {w : World} {base g n cap : Nat} {xs : List Value} {sl : List ByteArray} (h : w.ownsRow base 9 1 (.slice (some ⟨g, 0, Option.none⟩) n cap) n xs) (hn : n = sl.length) (hx : xs = sl.map Value.string) (hs : ∀ s ∈ sl, s.size ≤ maxLen) :
    Strs w (some ⟨g, 0, Option.none⟩) sl := by
  subst hn hx
  refine ⟨fun j hj => ⟨g, 0, rfl, (h.lt g rfl).2, ?_⟩, hs⟩
  rw [Nat.zero_add, h.cellAt j (by omega)]
  simp [List.getD, hj]

theorem set_take (sl : List ByteArray) (xs : List Value) (k : Nat) (s : ByteArray) (hs : sl[k]? = some s) (hl : xs.length = sl.length) (h : xs.take k = (sl.take k).map Value.string) :
    (xs.set k (.string s)).take (k + 1) = (sl.take (k + 1)).map Value.string := by
  obtain ⟨hk, e⟩ := List.getElem?_eq_some_iff.1 hs
  rw [List.take_succ_eq_append_getElem (by simp; omega), List.take_succ_eq_append_getElem hk, List.map_append, List.take_set_of_le (by omega), h]
  simp [e]

set_option maxRecDepth 100000 in
set_option maxHeartbeats 1000000 in
/-- zzClone -/
theorem clone_any (w : World) (ao : Option Addr) (cap : Nat) (sl : List ByteArray) (hS : Strs w ao sl) (hl : sl.length ≤ 1000000) :
    Calls Tryf.prog 8 #[.slice ao sl.length cap] w fun e w' => ∃ ao' cap', e = .returned (.slice ao' sl.length cap') ∧ Strs w' ao' sl ∧ sl.length ≤ cap' ∧ Below w.heap.size w w' := by
  have HS := hid hS
  have hq := eql_nil
  clear hS
  cases ao with
  | none =>
    obtain rfl := strs_nil HS.out
    go_enter Tryf.func8, Tryf.ntmps8
    go_wp2
    go_ret
    exact ⟨_, _, rfl, HS.out, Nat.le_refl _, Below.refl _ _⟩
  | some ad =>
    obtain ⟨i0, hi, hz0, hz1, hz2⟩ := info_parts Tryf.info9
    go_enter Tryf.func8, Tryf.ntmps8
    go_wp2_with (at_make; (refine wpList_make_full _ rfl (.tmp 8) (.tmp 8) 22 rfl w.heap.size 9 i0 (.string ByteArray.empty) 1 Tryf.underlying22 hi hz0 hz1 .i64 .i64 _ _ sl.length rfl rfl rfl rfl (by rw [hz2]; omega) (by unfold maxLen; omega) (by simp) ?_))
    intro w1 hown hgrow
    have HB : Hid (Below w.heap.size w w1) := (Below.refl _ _).grown hgrow (Nat.le_refl _) (by simp)
    have HO : Hid (∃ xs, w1.ownsRow w.heap.size 9 1 (.slice (some ⟨w.heap.size, 0, Option.none⟩) sl.length sl.length) sl.length xs ∧ xs.take 0 = (sl.take 0).map Value.string) := ⟨_, hown, by simp⟩
    clear hown hgrow hi hz0 hz1 hz2
    go_wp2_with fail
    go_loopw [4] (fun i wr => ∃ k : Nat, k ≤ sl.length ∧ i = .int .i64 k ∧ Hid (∃ xs, wr.ownsRow w.heap.size 9 1 (.slice (some ⟨w.heap.size, 0, Option.none⟩) sl.length sl.length) sl.length xs ∧ xs.take k = (sl.take k).map Value.string) ∧ Hid (Below w.heap.size w wr)) (fun i _ => sl.length - (intOf i).toNat)
    case atStart => exact ⟨0, Nat.zero_le _, rfl, HO, HB⟩
    case round =>
      clear HO HB
      obtain ⟨k, hk, rfl, HO, HB⟩ := hrel
      obtain ⟨xs, ho, hx⟩ := HO.out
      have HO' := hid ho
      have HX := hid hx
      clear HO ho hx
      by_cases hlt : k < sl.length
      · obtain ⟨b, off, s, e1, hb, hc, hs, hz⟩ := HS.out.at hlt
        obtain rfl : ad = ⟨b, off, Option.none⟩ := by simpa using e1
        have hxl : xs.length = sl.length := by have := HO'.out.1; omega
        have d1 : wr.cell? ⟨b, off + k, Option.none⟩ = some (.string s) := (HB.out.cell (by exact hb)).trans hc
        obtain ⟨u, d2⟩ : ∃ u, wr.cell? ⟨w.heap.size, k, Option.none⟩ = some u := ⟨_, by rw [HO'.out.cellAt k (by omega)]; exact List.getElem?_eq_getElem (by omega)⟩
        have d3 : wr.frozen? ⟨w.heap.size, k, Option.none⟩ = false := HO'.out.frozenAt k
        have HN := hid (set_take sl xs k s hs hxl HX.out)
        have HN2 := hid (HO'.out.stored k (.string s)).1
        have HB' := hid (HB.out.setCell (p := ⟨w.heap.size, k, Option.none⟩) (Nat.le_refl _) (.string s))
        clear hs hc e1 hxl
        go_wp2
        go_roundw
        case rel => exact ⟨k + 1, by omega, by go_num, ⟨_, HN2.out, HN.out⟩, HB'⟩
        case measure => simp [intOf]; omega
      · have hkl : k = sl.length := by omega
        subst hkl
        go_wp2
        go_ret
        have hxl : xs.length = sl.length := by have := HO'.out.1; omega
        refine ⟨_, _, rfl, strs_of_owns HO'.out rfl ?_ HS.out.2, Nat.le_refl _, HB.out⟩
        have := HX.out
        rwa [List.take_of_length_le (by omega), List.take_length] at this

/-- Block rb is a reader. -/
def rdCells (nm : ByteArray) (ho : Option Addr) (n hc : Nat) (line : Int) (err : Value) : Array Value :=
  #[.string nm, .pointer Option.none, .pointer Option.none, .slice ho n hc, .slice Option.none 0 0, .slice Option.none 0 0, .slice Option.none 0 0, .int .i64 line, err]
def Rd (w : World) (rb : Nat) (nm : ByteArray) (ho : Option Addr) (n hc : Nat) (line : Int) (err : Value) : Prop :=
  w.heap[rb]? = some (.cells (rdCells nm ho n hc line err) 44 (0, 0))

theorem Rd.lt {w : World} {rb : Nat} {nm : ByteArray} {ho : Option Addr} {n hc : Nat} {line : Int} {err : Value} (h : Rd w rb nm ho n hc line err) : rb < w.heap.size := lt_of_block h
theorem Rd.below {w w' : World} {rb : Nat} {nm : ByteArray} {ho : Option Addr} {n hc : Nat} {line : Int} {err : Value} (h : Rd w rb nm ho n hc line err) (f : Below w.heap.size w w') : Rd w' rb nm ho n hc line err := by
  unfold Rd at *
  rw [f.block rb (lt_of_block h)]; exact h
theorem Rd.cells {w : World} {rb : Nat} {nm : ByteArray} {ho : Option Addr} {n hc : Nat} {line : Int} {err : Value} (h : Rd w rb nm ho n hc line err) :
    w.cell? ⟨rb, 0, Option.none⟩ = some (.string nm) ∧ w.cell? ⟨rb, 3, Option.none⟩ = some (.slice ho n hc) ∧ w.cell? ⟨rb, 7, Option.none⟩ = some (.int .i64 line) ∧ w.cell? ⟨rb, 8, Option.none⟩ = some err ∧ w.frozen? ⟨rb, 8, Option.none⟩ = false := by
  refine ⟨?_, ?_, ?_, ?_, frozen_of_row _ _ _ _ _ h⟩ <;> (rw [cell_of_row _ _ _ _ _ _ h]; rfl)

set_option maxRecDepth 100000 in
set_option maxHeartbeats 400000 in
/-- ZZnewReader -/
theorem newR_any (w : World) (nm : ByteArray) (ho : Option Addr) (n hc : Nat) (line : Int) :
    Calls Tryf.prog 9 #[.string nm, .slice ho n hc, .int .i64 line] w fun e w' => ∃ rb, e = .returned (.pointer (some ⟨rb, 0, Option.none⟩)) ∧ Rd w' rb nm ho n hc line .nilIface ∧ w.heap.size ≤ rb ∧ Below w.heap.size w w' := by
  go_enter Tryf.func9, Tryf.ntmps9
  go_wp2
  go_ret
  exact ⟨w.heap.size, rfl, heap_alloc_new w _, Nat.le_refl _, (Below.refl _ _).alloc (Nat.le_refl _) _⟩

set_option maxRecDepth 100000 in
set_option maxHeartbeats 400000 in
/-- (*Reader).Line -/
theorem line_any (w : World) (rb : Nat) (line : Int) (h : w.cell? ⟨rb, 7, Option.none⟩ = some (.int .i64 line)) :
    Calls Tryf.prog 16 #[.pointer (some ⟨rb, 0, Option.none⟩)] w fun e w' => e = .returned (.int .i64 line) ∧ w' = w := by
  go_enter Tryf.func16, Tryf.ntmps16
  go_wp2
  go_ret
  exact ⟨rfl, rfl⟩

set_option maxRecDepth 100000 in
set_option maxHeartbeats 400000 in
/-- ZZerr -/
theorem err_any (w : World) (rb : Nat) (err : Value) (h : w.cell? ⟨rb, 8, Option.none⟩ = some err) :
    Calls Tryf.prog 11 #[.pointer (some ⟨rb, 0, Option.none⟩)] w fun e w' => e = .returned err ∧ w' = w := by
  go_enter Tryf.func11, Tryf.ntmps11
  go_wp2
  go_ret
  exact ⟨rfl, rfl⟩

set_option maxRecDepth 100000 in
set_option maxHeartbeats 400000 in
/-- (*Reader).Place -/
theorem place_any (w : World) (rb : Nat) (nm : ByteArray) (line : Int) (h0 : w.cell? ⟨rb, 0, Option.none⟩ = some (.string nm)) (h : w.cell? ⟨rb, 7, Option.none⟩ = some (.int .i64 line)) :
    Calls Tryf.prog 17 #[.pointer (some ⟨rb, 0, Option.none⟩)] w fun e w' => e = .returned (.agg #[.string nm, .int .i64 line]) ∧ Below w.heap.size w w' := by
  have hlt : rb < w.heap.size := block_lt_of_cell h
  go_enter Tryf.func17, Tryf.ntmps17
  go_wp2
  go_region
  all_goals go_wp2
  all_goals exact bodyPost_ret (v := .agg #[.string nm, .int .i64 line]) (by simp [results, Tryf.results17, go_sem]) rfl ⟨rfl, ((Below.refl _ _).alloc (Nat.le_refl _) _).drew⟩
end Go.Proofs.Qxb6616847aFmt
