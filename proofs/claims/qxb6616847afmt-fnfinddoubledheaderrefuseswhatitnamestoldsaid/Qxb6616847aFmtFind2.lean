import Derived.Test.Qxb6616847aFmtFind
namespace Go.Proofs.Qxb6616847aFmt
open Go.RowKit Go.Extern.Stop Go.Stop Go.Extern

set_option maxRecDepth 1000000 in
set_option maxHeartbeats 400000 in
/-- (*Reader).Fault -/
theorem fault_any (nm col : ByteArray) (line : Int) (rb blk : Nat) (w : World) (h0 : w.cell? ⟨rb, 0, Option.none⟩ = some (.string nm)) (h7 : w.cell? ⟨rb, 7, Option.none⟩ = some (.int .i64 line)) (hc0 : w.cell? ⟨blk, 0, Option.none⟩ = some (.iface 9 (.string col))) :
    Calls Tryf.prog 22 #[.pointer (some ⟨rb, 0, Option.none⟩), .string fm1, .slice (some ⟨blk, 0, Option.none⟩) 1 1] w fun e w' => ∃ (t : TypeId) (x : Value), e = .returned (.iface t x) ∧ Below w.heap.size w w' := by
  have hbl : blk < w.heap.size := block_lt_of_cell hc0
  go_enter Tryf.func22, Tryf.ntmps22
  go_wp2_with fail
  refine (place_any w rb nm line h0 h7).mono ?_
  rintro e w1 ⟨rfl, hb1⟩
  have HB1 := hid hb1
  have hc1 : w1.cell? ⟨blk, 0, Option.none⟩ = some (.iface 9 (.string col)) := (hb1.cell (by exact hbl)).trans hc0
  clear hb1 h0 h7
  go_wp2_with fail
  refine (perr_any nm col line blk w1 hc1).mono ?_
  rintro e w2 ⟨t, x, rfl, hb2⟩
  have HB2 := hid (HB1.out.trans (hb2.mono HB1.out.size))
  clear hb2
  go_wp2_with fail
  go_ret
  exact ⟨t, x, rfl, HB2.out⟩

theorem rd_err {w w2 : World} {rb : Nat} {nm : ByteArray} {ho : Option Addr} {n hc : Nat} {line : Int} {err : Value} (h : Rd w rb nm ho n hc line err) (hb : Below w.heap.size w w2) (v : Value) :
    Rd (w2.setCell ⟨rb, 8, Option.none⟩ v) rb nm ho n hc line v ∧ Fr (fun k => k = rb) w (w2.setCell ⟨rb, 8, Option.none⟩ v) := by
  have h2 := h.below hb
  refine ⟨?_, (fr_of_below hb (fun k => k = rb)).trans (Fr.setCell (S := fun k => k = rb) w2 ⟨rb, 8, Option.none⟩ v rfl) (fun _ _ h => h)⟩
  have := heap_setCell_same w2 rb 8 _ 44 v h2
  exact this

set_option maxRecDepth 1000000 in
set_option maxHeartbeats 400000 in
/-- (*Reader).Errorf, no error yet -/
theorem rerr_new (nm col : ByteArray) (ho : Option Addr) (n hcp : Nat) (line : Int) (rb blk : Nat) (w : World) (hR : Rd w rb nm ho n hcp line .nilIface) (hc0 : w.cell? ⟨blk, 0, Option.none⟩ = some (.iface 9 (.string col))) :
    Calls Tryf.prog 21 #[.pointer (some ⟨rb, 0, Option.none⟩), .string fm1, .slice (some ⟨blk, 0, Option.none⟩) 1 1] w fun e w' => e = .returned (.tuple #[]) ∧ ∃ (t : TypeId) (x : Value), Rd w' rb nm ho n hcp line (.iface t x) ∧ Fr (fun k => k = rb) w w' := by
  obtain ⟨c0, c3, c7, c8, f8⟩ := hR.cells
  have HR := hid hR
  clear hR c3
  go_enter Tryf.func21, Tryf.ntmps21
  go_wp2_with fail
  refine (fault_any nm col line rb blk w c0 c7 hc0).mono ?_
  rintro e w1 ⟨t, x, rfl, hb1⟩
  have d8 : w1.cell? ⟨rb, 8, Option.none⟩ = some .nilIface := (HR.out.below hb1).cells.2.2.2.1
  have g8 : w1.frozen? ⟨rb, 8, Option.none⟩ = false := (HR.out.below hb1).cells.2.2.2.2
  have HB1 := hid hb1
  clear hb1 c0 c7 c8 f8 hc0
  go_wp2_with fail
  go_end0
  exact ⟨rfl, t, x, rd_err HR.out HB1.out _⟩

set_option maxRecDepth 1000000 in
set_option maxHeartbeats 400000 in
/-- (*Reader).Errorf behind an error -/
theorem rerr_old (rb blk : Nat) (w : World) (t0 : TypeId) (x0 : Value) (c8 : w.cell? ⟨rb, 8, Option.none⟩ = some (.iface t0 x0)) :
    Calls Tryf.prog 21 #[.pointer (some ⟨rb, 0, Option.none⟩), .string fm1, .slice (some ⟨blk, 0, Option.none⟩) 1 1] w fun e w' => e = .returned (.tuple #[]) ∧ w' = w := by
  go_enter Tryf.func21, Tryf.ntmps21
  go_wp2_with fail
  go_end0
  exact ⟨rfl, rfl⟩

theorem strs_drop {w : World} {b off : Nat} {sl : List ByteArray} (h : Strs w (some ⟨b, off, Option.none⟩) sl) (k : Nat) : Strs w (some ⟨b, off + k, Option.none⟩) (sl.drop k) := by
  refine ⟨fun j hj => ?_, fun s hs => h.2 s (List.mem_of_mem_drop hs)⟩
  simp at hj
  obtain ⟨b', off', e, h1, h2⟩ := h.1 (k + j) (by omega)
  obtain ⟨rfl, rfl⟩ : b = b' ∧ off = off' := by simpa using e
  refine ⟨b, off + k, rfl, h1, ?_⟩
  rw [Nat.add_assoc, h2]
  simp [List.getD]
theorem strs_empty (w : World) (ao : Option Addr) : Strs w ao [] := ⟨fun j hj => by simp at hj, fun s hs => by simp at hs⟩

theorem contains_n (w : World) (ao : Option Addr) (cap n : Nat) (sl : List ByteArray) (c : ByteArray) (hn : n = sl.length) (hS : Strs w ao sl) (hl : sl.length ≤ 1000000) :
    Calls Tryf.prog 20 #[.slice ao n cap, .string c] w fun e w' => ∃ b : Bool, e = .returned (.bool b) ∧ (b = true ↔ c ∈ sl) ∧ w' = w := by
  subst hn
  exact contains_any w ao cap sl c hS hl

/-- what find leaves: the first place; the reader, refused if it was or if c is named twice; nothing else that was there has turned -/
def Found (nm c : ByteArray) (ho : Option Addr) (hcp : Nat) (sl : List ByteArray) (line : Int) (err : Value) (rb : Nat) (w : World) (e : Ending) (w' : World) : Prop :=
  ∃ (r : Int) (err' : Value), e = .returned (.int .i64 r) ∧ IsF sl c r ∧ Rd w' rb nm ho sl.length hcp line err' ∧ Fr (fun k => k = rb) w w' ∧
      ((err' = .nilIface ∧ err = .nilIface ∧ cn c sl < 2) ∨ ((∃ t x, err' = .iface t x) ∧ ((∃ t x, err = .iface t x) ∨ 2 ≤ cn c sl)))

set_option maxRecDepth 1000000 in
set_option maxHeartbeats 1000000 in
/-- (*Reader).find -/
theorem find_any (nm c : ByteArray) (ho : Option Addr) (hcp : Nat) (sl : List ByteArray) (line : Int) (err : Value) (rb : Nat) (w : World) (hR : Rd w rb nm ho sl.length hcp line err) (hS : Strs w ho sl) (hl : sl.length ≤ 1000000) (hcap : sl.length ≤ hcp)
    (he : err = .nilIface ∨ ∃ t x, err = .iface t x) :
    Calls Tryf.prog 18 #[.pointer (some ⟨rb, 0, Option.none⟩), .string c] w fun e w' => Found nm c ho hcp sl line err rb w e w' := by
  obtain ⟨c0, c3, c7, c8, f8⟩ := hR.cells
  have HR := hid hR
  have HS := hid hS
  have HE := hid he
  clear hR hS c0 c7 f8 he
  go_enter Tryf.func18, Tryf.ntmps18
  go_wp2_with fail
  refine (index_any w ho hcp sl c HS.out hl).mono ?_
  rintro e w1 ⟨r, rfl, hr, rfl⟩
  have HF := hid hr
  rcases isF_cn hr with ⟨rfl, hcn⟩ | ⟨k, rfl, hk, hcn⟩
  · have HC := hid hcn
    clear hr hcn
    go_wp2_with fail
    go_ret
    refine ⟨-1, err, rfl, HF.out, HR.out, Fr.refl _ _, ?_⟩
    rcases HE.out with h | h
    · exact Or.inl ⟨h, h, by have := HC.out; omega⟩
    · exact Or.inr ⟨h, Or.inl h⟩
  · have HC := hid hcn
    clear hr hcn
    obtain ⟨b, off, s, rfl, hb, _, _, _⟩ := HS.out.at hk
    have S2 := hid (strs_drop HS.out (k + 1))
    by_cases hq : hcp = k + 1
    · subst hq
      have e0 : sl.drop (k + 1) = [] := List.drop_eq_nil_of_le (by omega)
      have E0 := hid e0
      clear e0
      go_wp2_with fail
      refine (contains_n w1 _ _ _ (sl.drop (k + 1)) c (by simp; omega) (by rw [E0.out]; exact strs_empty _ _) (by simp; omega)).mono ?_
      rintro e w2 ⟨b2, rfl, hb2, rfl⟩
      have HB2 := hid hb2
      clear hb2
      cases b2 with
      | false =>
        have hd : cn c (sl.drop (k + 1)) = 0 := (cn_zero c _).2 (fun m => by have := HB2.out.2 m; cases this)
        have HD := hid hd
        clear hd
        go_wp2_with fail
        go_ret
        refine ⟨_, err, rfl, HF.out, HR.out, Fr.refl _ _, ?_⟩
        rcases HE.out with h | h
        · exact Or.inl ⟨h, h, by have := HC.out; have := HD.out; omega⟩
        · exact Or.inr ⟨h, Or.inl h⟩
      | true =>
        have hd : 0 < cn c (sl.drop (k + 1)) := (cn_pos c _).2 (HB2.out.1 rfl)
        have HD := hid hd
        clear hd
        go_wp2_with fail
        rcases HE.out with h | ⟨t0, x0, h⟩
        · subst h
          have HRa := hid (HR.out.below (w' := w2.alloc (.cells #[.iface 9 (.string c)] 20)) ((Below.refl _ _).alloc (Nat.le_refl _) _))
          refine (rerr_new nm c _ _ _ line rb w2.heap.size _ HRa.out (cell_of_one (heap_alloc_new w2 _))).mono ?_
          rintro e w3 ⟨rfl, t, x, hR3, hf3⟩
          have HR3 := hid hR3
          have HF3 := hid hf3
          clear hR3 hf3 c3 c8
          go_wp2_with fail
          go_ret
          exact ⟨_, _, rfl, HF.out, HR3.out, (Fr.alloc (fun k => k = rb) w2 _).trans HF3.out (fun _ _ h => h), Or.inr ⟨⟨t, x, rfl⟩, Or.inr (by have := HC.out; have := HD.out; omega)⟩⟩
        · subst h
          have HRa := hid (HR.out.below (w' := w2.alloc (.cells #[.iface 9 (.string c)] 20)) ((Below.refl _ _).alloc (Nat.le_refl _) _))
          refine (rerr_old rb w2.heap.size _ t0 x0 HRa.out.cells.2.2.2.1).mono ?_
          rintro e w3 ⟨rfl, rfl⟩
          clear c3 c8
          go_wp2_with fail
          go_ret
          exact ⟨_, _, rfl, HF.out, HRa.out, Fr.alloc (fun k => k = rb) w2 _, Or.inr ⟨⟨t0, x0, rfl⟩, Or.inl ⟨t0, x0, rfl⟩⟩⟩

    · go_wp2_with fail
      refine (contains_n w1 _ _ _ (sl.drop (k + 1)) c (by simp) S2.out (by simp; omega)).mono ?_
      rintro e w2 ⟨b2, rfl, hb2, rfl⟩
      have HB2 := hid hb2
      clear hb2
      cases b2 with
      | false =>
        have hd : cn c (sl.drop (k + 1)) = 0 := (cn_zero c _).2 (fun m => by have := HB2.out.2 m; cases this)
        have HD := hid hd
        clear hd
        go_wp2_with fail
        go_ret
        refine ⟨_, err, rfl, HF.out, HR.out, Fr.refl _ _, ?_⟩
        rcases HE.out with h | h
        · exact Or.inl ⟨h, h, by have := HC.out; have := HD.out; omega⟩
        · exact Or.inr ⟨h, Or.inl h⟩
      | true =>
        have hd : 0 < cn c (sl.drop (k + 1)) := (cn_pos c _).2 (HB2.out.1 rfl)
        have HD := hid hd
        clear hd
        go_wp2_with fail
        rcases HE.out with h | ⟨t0, x0, h⟩
        · subst h
          have HRa := hid (HR.out.below (w' := w2.alloc (.cells #[.iface 9 (.string c)] 20)) ((Below.refl _ _).alloc (Nat.le_refl _) _))
          refine (rerr_new nm c _ _ _ line rb w2.heap.size _ HRa.out (cell_of_one (heap_alloc_new w2 _))).mono ?_
          rintro e w3 ⟨rfl, t, x, hR3, hf3⟩
          have HR3 := hid hR3
          have HF3 := hid hf3
          clear hR3 hf3 c3 c8
          go_wp2_with fail
          go_ret
          exact ⟨_, _, rfl, HF.out, HR3.out, (Fr.alloc (fun k => k = rb) w2 _).trans HF3.out (fun _ _ h => h), Or.inr ⟨⟨t, x, rfl⟩, Or.inr (by have := HC.out; have := HD.out; omega)⟩⟩
        · subst h
          have HRa := hid (HR.out.below (w' := w2.alloc (.cells #[.iface 9 (.string c)] 20)) ((Below.refl _ _).alloc (Nat.le_refl _) _))
          refine (rerr_old rb w2.heap.size _ t0 x0 HRa.out.cells.2.2.2.1).mono ?_
          rintro e w3 ⟨rfl, rfl⟩
          clear c3 c8
          go_wp2_with fail
          go_ret
          exact ⟨_, _, rfl, HF.out, HRa.out, Fr.alloc (fun k => k = rb) w2 _, Or.inr ⟨⟨t0, x0, rfl⟩, Or.inl ⟨t0, x0, rfl⟩⟩⟩


set_option maxRecDepth 1000000 in
set_option maxHeartbeats 400000 in
/-- ZZfind -/
theorem zfind_any (nm c : ByteArray) (ho : Option Addr) (hcp : Nat) (sl : List ByteArray) (line : Int) (err : Value) (rb : Nat) (w : World) (hR : Rd w rb nm ho sl.length hcp line err) (hS : Strs w ho sl) (hl : sl.length ≤ 1000000) (hcap : sl.length ≤ hcp)
    (he : err = .nilIface ∨ ∃ t x, err = .iface t x) :
    Calls Tryf.prog 10 #[.pointer (some ⟨rb, 0, Option.none⟩), .string c] w fun e w' => Found nm c ho hcp sl line err rb w e w' := by
  have HR := hid hR
  have HS := hid hS
  have HE := hid he
  clear hR hS he
  go_enter Tryf.func10, Tryf.ntmps10
  go_wp2_with fail
  refine (find_any nm c ho hcp sl line err rb w HR.out HS.out hl hcap HE.out).mono ?_
  rintro e w1 ⟨r, err', rfl, h1, h2, h3, h4⟩
  have H := hid (show Found nm c ho hcp sl line err rb w (.returned (.int .i64 r)) w1 from ⟨r, err', rfl, h1, h2, h3, h4⟩)
  clear h1 h2 h3 h4 HE
  go_wp2_with fail
  go_ret
  exact H.out
end Go.Proofs.Qxb6616847aFmt
