import Derived.Test.Qxb6616847aFmtFind2
namespace Go.Proofs.Qxb6616847aFmt
open Go.RowKit

set_option maxRecDepth 1000000 in
set_option maxHeartbeats 400000 in
/-- the ways out ahead of the law proper -/
theorem ls_out (w : World) (nm : ByteArray) (ao co : Option Addr) (cap ccap : Nat) (sl cl : List ByteArray) (line : Int) (hS : Strs w ao sl) (hC : Strs w co cl) (h1 : sl.length ≤ maxLen) (h2 : cl.length ≤ maxLen) (h3 : nm.size ≤ maxLen)
    (h : 1048576 < nm.size ∨ 4096 < cl.length) :
    Calls Tryf.prog 5 #[.string nm, .slice ao sl.length cap, .int .i64 line, .slice co cl.length ccap] w fun e w' => e = .returned (.bool true) ∧ Below w.heap.size w w' := by
  have HS := hid hS
  have HC := hid hC
  clear hS hC
  have H := hid h
  clear h
  go_enter Tryf.func5, Tryf.ntmps5
  go_wp2_with fail
  refine (zz15_any w ao co cap ccap sl cl nm line HS.out h1 HC.out h2).mono ?_
  rintro e w' ⟨⟨b, rfl⟩, rfl⟩
  unfold maxLen at h1 h2 h3
  cases b with
  | false =>
    go_wp2_with fail
    go_ret
    exact ⟨rfl, Below.refl _ _⟩
  | true =>
    by_cases q : 1048576 < nm.size
    · go_wp2_with fail
      go_ret
      exact ⟨rfl, Below.refl _ _⟩
    · have q2 : 4096 < cl.length := by have := H.out; omega
      go_wp2_with fail
      go_ret
      exact ⟨rfl, Below.refl _ _⟩

theorem Strs.fr {S : Nat → Prop} {w w' : World} {ao : Option Addr} {sl : List ByteArray} (h : Strs w ao sl) (f : Fr S w w') (hS : ∀ b off, ao = some ⟨b, off, Option.none⟩ → ¬ S b) : Strs w' ao sl := by
  refine ⟨fun j hj => ?_, h.2⟩
  obtain ⟨b, off, h1, h2, h3⟩ := h.1 j hj
  exact ⟨b, off, h1, Nat.lt_of_lt_of_le h2 f.size, (World.cell?_of_block (w := w) (f.block b h2 (hS b off h1))).trans h3⟩

/-- block wb holds the place that is wanted -/
def Want (w : World) (wb : Nat) (nm : ByteArray) (line : Int) : Prop :=
  w.cell? ⟨wb, 0, Option.none⟩ = some (.string nm) ∧ w.cell? ⟨wb, 1, Option.none⟩ = some (.int .i64 line)
theorem Want.below {w w' : World} {wb : Nat} {nm : ByteArray} {line : Int} (h : Want w wb nm line) (f : Below w.heap.size w w') : Want w' wb nm line :=
  ⟨(f.cell (by exact block_lt_of_cell h.1)).trans h.1, (f.cell (by exact block_lt_of_cell h.2)).trans h.2⟩
theorem Want.fr {S : Nat → Prop} {w w' : World} {wb : Nat} {nm : ByteArray} {line : Int} (h : Want w wb nm line) (f : Fr S w w') (hS : ¬ S wb) : Want w' wb nm line :=
  ⟨(World.cell?_of_block (w := w) (f.block wb (block_lt_of_cell h.1) hS)).trans h.1, (World.cell?_of_block (w := w) (f.block wb (block_lt_of_cell h.2) hS)).trans h.2⟩
theorem of_drew {w w' : World} (h : Below w.drew.heap.size w.drew w') : Below w.heap.size w w' := ⟨h.os, h.tape, h.output, h.size, h.block⟩
/-- all that the loop keeps -/
structure Keep (w0 w : World) (rb wb : Nat) (nm : ByteArray) (ho : Option Addr) (hcp : Nat) (sl : List ByteArray) (line : Int) : Prop where
  rd : ∃ err, Rd w rb nm ho sl.length hcp line err ∧ (err = .nilIface ∨ ∃ t x, err = .iface t x)
  strs : Strs w ho sl
  want : Want w wb nm line
  bel : Below w0.heap.size w0 w
  old : w0.heap.size ≤ rb
  apart : wb ≠ rb
  hdr : ∀ b off, sl ≠ [] → ho = some ⟨b, off, Option.none⟩ → b ≠ rb
theorem Keep.below {w0 w w' : World} {rb wb : Nat} {nm : ByteArray} {ho : Option Addr} {hcp : Nat} {sl : List ByteArray} {line : Int} (h : Keep w0 w rb wb nm ho hcp sl line) (f : Below w.heap.size w w') : Keep w0 w' rb wb nm ho hcp sl line := by
  obtain ⟨err, h1, h2⟩ := h.rd
  exact ⟨⟨err, h1.below f, h2⟩, h.strs.below f, h.want.below f, h.bel.trans (f.mono h.bel.size), h.old, h.apart, h.hdr⟩
theorem Keep.found {w0 w w' : World} {rb wb : Nat} {nm : ByteArray} {ho : Option Addr} {hcp : Nat} {sl : List ByteArray} {line : Int} (h : Keep w0 w rb wb nm ho hcp sl line) {err : Value} (hR : Rd w' rb nm ho sl.length hcp line err) (he : err = .nilIface ∨ ∃ t x, err = .iface t x) (f : Fr (fun k => k = rb) w w') : Keep w0 w' rb wb nm ho hcp sl line := by
  refine ⟨⟨err, hR, he⟩, ?_, h.want.fr f h.apart, h.bel.trans (f.below h.bel.size (fun k hk e => by have := h.old; omega)), h.old, h.apart, h.hdr⟩
  by_cases hs : sl = []
  · subst hs; exact strs_empty _ _
  · exact h.strs.fr f (fun b off e => h.hdr b off hs e)
theorem want_new (w : World) (nm : ByteArray) (line : Int) : Want (w.alloc (.cells #[.string nm, .int .i64 line] 37)) w.heap.size nm line := by
  constructor <;> (rw [cell_of_row _ _ _ _ _ _ (heap_alloc_new w _)]; rfl)

set_option maxRecDepth 1000000 in
set_option maxHeartbeats 2000000 in
theorem ls_main (w : World) (nm : ByteArray) (ao co : Option Addr) (cap ccap : Nat) (sl cl : List ByteArray) (line : Int) (hS : Strs w ao sl) (hC : Strs w co cl) (h1 : sl.length ≤ maxLen) (h3 : nm.size ≤ 1048576) (h4 : cl.length ≤ 4096) :
    Calls Tryf.prog 5 #[.string nm, .slice ao sl.length cap, .int .i64 line, .slice co cl.length ccap] w fun e w' => e = .returned (.bool true) ∧ Below w.heap.size w w' := by
  have HS := hid hS
  have HC := hid hC
  clear hS hC
  go_enter Tryf.func5, Tryf.ntmps5
  go_wp2_with fail
  refine (zz15_any w ao co cap ccap sl cl nm line HS.out h1 HC.out (by unfold maxLen; omega)).mono ?_
  rintro e w' ⟨⟨b, rfl⟩, rfl⟩
  cases b with
  | false =>
    go_wp2_with fail
    go_ret
    exact ⟨rfl, Below.refl _ _⟩
  | true =>
    go_wp2_with fail
    refine (addStr_any w' ao cap sl _ HS.out h1).mono ?_
    rintro e w1 ⟨⟨r1, rfl, hr1⟩, rfl⟩
    by_cases q1 : 1048576 < r1
    · clear hr1
      go_wp2_with fail
      go_ret
      exact ⟨rfl, Below.refl _ _⟩
    have hl := hr1 (by omega)
    clear hr1 h1
    go_wp2_with fail
    refine (addStr_any w1 co ccap cl _ HC.out (by unfold maxLen; omega)).mono ?_
    rintro e w2 ⟨⟨r2, rfl, hr2⟩, rfl⟩
    clear hr2
    by_cases q2 : 1048576 < r2
    · go_wp2_with fail
      go_ret
      exact ⟨rfl, Below.refl _ _⟩
    go_wp2_with fail
    refine (clone_any w2 ao cap sl HS.out (by omega)).mono ?_
    rintro e w3 ⟨ho, hcp, rfl, hS3, hcap, hb3⟩
    have HS3 := hid hS3
    have HB3 := hid hb3
    clear hS3 hb3
    go_wp2_with fail
    refine (newR_any w3 nm ho sl.length hcp line).mono ?_
    rintro e w4 ⟨rb, rfl, hR4, hrb, hb4⟩
    have HR4 := hid hR4
    have HS4 := hid (HS3.out.below hb4)
    have HB4 := hid (HB3.out.trans (hb4.mono HB3.out.size))
    have HQ := hid (show ∀ b off, sl ≠ [] → ho = some ⟨b, off, Option.none⟩ → b < rb from fun b off hne he => by
      obtain ⟨b', off', e1, e2, _⟩ := HS3.out.1 0 (by cases sl; exact absurd rfl hne; simp)
      rw [he] at e1
      obtain ⟨rfl, _⟩ : b = b' ∧ off = off' := by simpa using e1
      omega)
    have HRB : Hid (w2.heap.size ≤ rb) := Nat.le_trans HB3.out.size hrb
    clear hR4 hb4 hrb HS3 HB3
    go_wp2_with fail
    have hBn : Below w4.heap.size w4 (w4.alloc (.cells #[.string nm, .int .i64 line] 37)) := (Below.refl _ _).alloc (Nat.le_refl _) _
    have HW5 := hid (want_new w4 nm line)
    have HR5 := hid (HR4.out.below hBn)
    have HS5 := hid (HS4.out.below hBn)
    have HB5 := hid (HB4.out.trans (hBn.mono HB4.out.size))
    have HWB : Hid (rb < w4.heap.size) := HR4.out.lt
    clear HR4 HS4 HB4 hBn
    generalize w4.alloc (.cells #[.string nm, .int .i64 line] 37) = w5 at *
    generalize w4.heap.size = wb at *
    have hne : (line != line) = false := by simp
    have hK : Keep w2 w5 rb wb nm ho hcp sl line := ⟨⟨_, HR5.out, Or.inl rfl⟩, HS5.out, HW5.out, HB5.out, HRB.out, by have := HWB.out; omega, fun b off h1 h2 => by have := HQ.out b off h1 h2; omega⟩
    have HK5 := hid hK
    clear hK HB5 HRB HWB HQ
    obtain ⟨c0, _, c7, _, _⟩ := HR5.out.cells
    obtain ⟨d0, d1⟩ := HW5.out
    clear HR5 HW5 HS5
    go_region_with (first
      | (go_at_call 16; refine (line_any _ rb line ?_).mono ?_; go_simp; rintro e w' ⟨rfl, rfl⟩)
      | (go_at_call 17; refine (place_any _ rb nm line ?_ ?_).mono ?_; go_simp; go_simp; rintro e w6 ⟨rfl, hb6⟩; have HB6 := hid hb6; have d0' : w6.cell? ⟨wb, 0, Option.none⟩ = some (.string nm) := (hb6.cell (by exact block_lt_of_cell d0)).trans d0; have d1' : w6.cell? ⟨wb, 1, Option.none⟩ = some (.int .i64 line) := (hb6.cell (by exact block_lt_of_cell d1)).trans d1; clear hb6))
    all_goals
      have HK6 := hid (HK5.out.below (of_drew HB6.out))
      clear HB6 c0 c7 d0 d1 d0' d1'
      go_wp2_with fail
      go_loopw [12] (fun iv wr => ∃ i : Nat, i ≤ cl.length ∧ iv = .int .i64 i ∧ Hid (Keep w2 wr rb wb nm ho hcp sl line)) (fun i _ => cl.length - (intOf i).toNat)
      case atStart => exact ⟨0, Nat.zero_le _, rfl, HK6⟩
      case round =>
        clear HK6 HK5
        obtain ⟨i, hi, rfl, HK⟩ := hrel
        by_cases hlt : i < cl.length
        · obtain ⟨cb, coff, c, rfl, hcb, hcc, _, _⟩ := HC.out.at hlt
          have HCC := hid hcc
          have e1 : wr.cell? ⟨cb, coff + i, Option.none⟩ = some (.string c) := (HK.out.bel.cell (by exact hcb)).trans hcc
          clear hcc
          obtain ⟨err, hR, he⟩ := HK.out.rd
          have HR := hid hR
          have HE := hid he
          clear hR he
          go_wp2_with fail
          refine (zfind_any nm c ho hcp sl line err rb wr HR.out HK.out.strs (by omega) hcap HE.out).mono ?_
          rintro e w7 ⟨r, err', rfl, hF, hR7, hf7, ho7⟩
          have HF := hid hF
          have HK7 := hid (HK.out.found hR7 (ho7.elim (fun h => Or.inl h.1) (fun h => Or.inr h.1)) hf7)
          have e2 : w7.cell? ⟨cb, coff + i, Option.none⟩ = some (.string c) := (HK7.out.bel.cell (by exact hcb)).trans HCC.out
          have HR7 := hid hR7
          clear hF hR7 hf7 ho7 HK HE HR e1
          go_wp2_with fail
          refine (firstAt_any w7 ho hcp sl c r HK7.out.strs (by omega) HF.out).mono ?_
          rintro e w8 ⟨rfl, rfl⟩
          obtain ⟨c0, _, c7, _, _⟩ := HR7.out.cells
          obtain ⟨d0, d1⟩ := HK7.out.want
          clear HR7 e2
          go_wp2_with fail
          go_region_with (first
            | (go_at_call 16; refine (line_any _ rb line ?_).mono ?_; go_simp; rintro e w' ⟨rfl, rfl⟩)
            | (go_at_call 17; refine (place_any _ rb nm line ?_ ?_).mono ?_; go_simp; go_simp; rintro e w6 ⟨rfl, hb6⟩; have HB6 := hid hb6; have d0' : w6.cell? ⟨wb, 0, Option.none⟩ = some (.string nm) := (hb6.cell (by exact block_lt_of_cell d0)).trans d0; have d1' : w6.cell? ⟨wb, 1, Option.none⟩ = some (.int .i64 line) := (hb6.cell (by exact block_lt_of_cell d1)).trans d1; clear hb6))
          all_goals
            have HK9 := hid (HK7.out.below (of_drew HB6.out))
            clear HB6 c0 c7 d0 d1 d0' d1'
            go_wp2_with fail
            go_roundw
            case rel => exact ⟨i + 1, by omega, by go_num, HK9⟩
            case measure => simp [intOf]; omega
        · go_wp2_with fail
          go_ret
          exact ⟨rfl, HK.out.bel⟩
end Go.Proofs.Qxb6616847aFmt
