import Derived.Test.Qxb6616847aFmtLine
namespace Go.Proofs.Qxb6616847aFmt
open Go.RowKit

theorem one_new (w : World) (a : Value) (t : TypeId) (k : Nat) (hk : k = w.heap.size) : ∀ j u, [a][j]? = some u → (w.alloc (.cells #[a] t)).cell? ((⟨k, 0, Option.none⟩ : Addr).add j) = some u := by
  subst hk
  intro j u hj
  match j, hj with
  | 0, hj =>
    simp at hj; subst hj
    rw [Addr.add_lit, cell_of_row _ _ _ _ _ _ (heap_alloc_new w _)]
    rfl
theorem one_cell (s : ByteArray) : ∀ u ∈ [Value.string s], u.oneCell' = true := by
  intro u hu; simp at hu; subst hu; rfl

/-- a row of strings that the call has built, from block B on; nothing below B has turned since w0 -/
structure Built (w0 w : World) (B : Nat) (v : Value) (gl : List ByteArray) : Prop where
  own : w.ownsRow B 9 1 v gl.length (gl.map Value.string)
  bel : Below B w0 w
theorem Built.step {w0 w w1 : World} {B : Nat} {v v' : Value} {gl : List ByteArray} {s : ByteArray} (h : Built w0 w B v gl) (hB : B ≤ w.heap.size)
    (ho : w1.ownsRow B 9 1 v' (gl.length + 1) (gl.map Value.string ++ [.string s])) (hg : (w.alloc (.cells #[.string s] 9)).grownBy w1 v.ownBlock) : Built w0 w1 B v' (gl ++ [s]) := by
  refine ⟨by simpa using ho, (h.bel.alloc hB _).grown hg (by simp; omega) (fun j hj => (h.own.lt j hj).1)⟩
theorem Built.strs {w0 w : World} {B : Nat} {v : Value} {gl : List ByteArray} (h : Built w0 w B v gl) (hs : ∀ s ∈ gl, s.size ≤ maxLen) (hne : 0 < gl.length) : ∃ g cap, v = .slice (some ⟨g, 0, Option.none⟩) gl.length cap ∧ Strs w (some ⟨g, 0, Option.none⟩) gl ∧ gl.length ≤ cap ∧ B ≤ g := by
  rcases h.own.2 with ⟨_, h0⟩ | ⟨g, cap, cur, rfl, hg, _, hle, _⟩
  · omega
  · exact ⟨g, cap, rfl, strs_of_owns h.own rfl rfl hs, hle, hg⟩

theorem ins_step {l : List ByteArray} {x s : ByteArray} {p i : Nat} (hp : p ≤ i) (hs : l[i]? = some s) : (l.take p ++ x :: (l.drop p).take (i - p)) ++ [s] = l.take p ++ x :: (l.drop p).take (i + 1 - p) := by
  obtain ⟨hi, e⟩ := List.getElem?_eq_some_iff.1 hs
  rw [show i + 1 - p = (i - p) + 1 by omega, List.take_succ_eq_append_getElem (by simp; omega)]
  simp only [List.append_assoc, List.cons_append, List.getElem_drop, show p + (i - p) = i by omega, e]
theorem take_step {l : List ByteArray} {s : ByteArray} {i : Nat} (hs : l[i]? = some s) : l.take i ++ [s] = l.take (i + 1) := by
  obtain ⟨hi, e⟩ := List.getElem?_eq_some_iff.1 hs
  rw [List.take_succ_eq_append_getElem hi, e]

theorem neq_nil (w : World) : (binOp .neq 30 .nilIface .nilIface).run Tryf.prog w = .ok (.bool false) w := by
  exact run_neq_nil_nil (P := Tryf.prog) w 30 (by kernel_rfl)
theorem neq_held (w : World) (t : TypeId) (x : Value) : (binOp .neq 30 (.iface t x) .nilIface).run Tryf.prog w = .ok (.bool true) w := by
  exact run_neq_held_nil (P := Tryf.prog) w 30 t x (by kernel_rfl)
/-- 'err != nil' behind a find on a reader without an error -/
theorem err_bit {sl : List ByteArray} {c : ByteArray} {ea : Value} {p : Prop} (h : (ea = .nilIface ∧ p ∧ cn c sl < 2) ∨ ((∃ t x, ea = .iface t x) ∧ ((∃ t x, Value.nilIface = .iface t x) ∨ 2 ≤ cn c sl))) :
    ∃ b : Bool, (∀ w, (binOp .neq 30 ea .nilIface).run Tryf.prog w = .ok (.bool b) w) ∧ (∀ (w : World) (x : Operand) (v : Value), (eqGuard .neq 30 x (.const v) ea .nilIface).run Tryf.prog w = .ok () w) ∧ (b = true ↔ 2 ≤ cn c sl) := by
  rcases h with ⟨rfl, _, h2⟩ | ⟨⟨t, y, rfl⟩, h2⟩
  · exact ⟨false, fun w => neq_nil w, fun w x v => by simp [eqGuard], by simp; omega⟩
  · refine ⟨true, fun w => neq_held w t y, fun w x v => by simp [eqGuard], ?_⟩
    rcases h2 with ⟨_, _, h2⟩ | h2
    · cases h2
    · simp [h2]

/-- strings that lay before a reader was made lie there behind what a find does to it -/
theorem Strs.keep {w w' w'' : World} {ao : Option Addr} {sl : List ByteArray} {rb : Nat} (h : Strs w ao sl) (hb : Below w.heap.size w w') (f : Fr (fun k => k = rb) w' w'') (hrb : w.heap.size ≤ rb) : Strs w'' ao sl := by
  refine ⟨fun j hj => ?_, h.2⟩
  obtain ⟨b, off, h1, h2, h3⟩ := h.1 j hj
  have h2' : b < w'.heap.size := Nat.lt_of_lt_of_le h2 hb.size
  exact ⟨b, off, h1, Nat.lt_of_lt_of_le h2' f.size, (World.cell?_of_block (w := w') (f.block b h2' (by omega))).trans ((hb.cell (by exact h2)).trans h3)⟩
theorem below_keep {w0 w w' w'' : World} {rb : Nat} (h : Below w0.heap.size w0 w) (hb : Below w.heap.size w w') (f : Fr (fun k => k = rb) w' w'') (hrb : w.heap.size ≤ rb) : Below w0.heap.size w0 w'' := by
  have h1 := h.trans (hb.mono h.size)
  exact h1.trans (f.below h1.size (fun k hk e => by have := h.size; omega))

set_option maxRecDepth 1000000 in
set_option maxHeartbeats 400000 in
/-- the ways out ahead of the law proper -/
theorem col_out (w : World) (ao : Option Addr) (cap : Nat) (sl : List ByteArray) (c x : ByteArray) (p : Int) (hS : Strs w ao sl) (h1 : sl.length ≤ maxLen) (h2 : c.size ≤ maxLen) (h3 : x.size ≤ maxLen)
    (h : 1048576 < c.size ∨ 1048576 < x.size ∨ p < 0 ∨ (sl.length : Int) < p) :
    Calls Tryf.prog 3 #[.slice ao sl.length cap, .string c, .int .i64 p, .string x] w fun e w' => e = .returned (.bool true) ∧ Below w.heap.size w w' := by
  have HS := hid hS
  have H := hid h
  clear hS h
  go_enter Tryf.func3, Tryf.ntmps3
  go_wp2_with fail
  refine (zz6_any w ao cap sl c x p HS.out h1).mono ?_
  rintro e w' ⟨⟨b, rfl⟩, rfl⟩
  unfold maxLen at h2 h3
  cases b with
  | false =>
    go_wp2_with fail
    go_ret
    exact ⟨rfl, Below.refl _ _⟩
  | true =>
    by_cases q : 1048576 < c.size
    · go_wp2_with fail
      go_ret
      exact ⟨rfl, Below.refl _ _⟩
    by_cases q2 : 1048576 < x.size
    · go_wp2_with fail
      go_ret
      exact ⟨rfl, Below.refl _ _⟩
    go_wp2_with fail
    refine (addStr_any w' ao cap sl _ HS.out h1).mono ?_
    rintro e w1 ⟨⟨r1, rfl, hr1⟩, rfl⟩
    clear hr1
    unfold maxLen at h1
    by_cases q1 : 1048576 < r1
    · go_wp2_with fail
      go_ret
      exact ⟨rfl, Below.refl _ _⟩
    by_cases q3 : p < 0
    · go_wp2_with fail
      go_ret
      exact ⟨rfl, Below.refl _ _⟩
    · have q4 : (sl.length : Int) < p := by have := H.out; omega
      go_wp2_with fail
      go_ret
      exact ⟨rfl, Below.refl _ _⟩

set_option maxRecDepth 1000000 in
set_option maxHeartbeats 2000000 in
theorem col_main (w : World) (ao : Option Addr) (cap : Nat) (sl : List ByteArray) (c x : ByteArray) (p : Nat) (hS : Strs w ao sl) (h1 : sl.length ≤ maxLen) (h2 : c.size ≤ 1048576) (h3 : x.size ≤ 1048576) (hp : p ≤ sl.length) :
    Calls Tryf.prog 3 #[.slice ao sl.length cap, .string c, .int .i64 p, .string x] w fun e w' => e = .returned (.bool true) ∧ Below w.heap.size w w' := by
  have HS := hid hS
  clear hS
  obtain ⟨i0, hi, hz0, hz1, hz2⟩ := info_parts Tryf.info9
  have HI := hid (And.intro hi (And.intro hz0 (And.intro hz1 hz2)))
  clear hi hz0 hz1 hz2
  go_enter Tryf.func3, Tryf.ntmps3
  go_wp2_with fail
  refine (zz6_any w ao cap sl c x p HS.out h1).mono ?_
  rintro e w' ⟨⟨b, rfl⟩, rfl⟩
  cases b with
  | false =>
    go_wp2_with fail
    go_ret
    exact ⟨rfl, Below.refl _ _⟩
  | true =>
    go_wp2_with fail
    refine (addStr_any w' ao cap sl _ HS.out h1).mono ?_
    rintro e w1 ⟨⟨r1, rfl, hr1⟩, rfl⟩
    by_cases q1 : 1048576 < r1
    · clear hr1
      go_wp2_with fail
      go_ret
      exact ⟨rfl, Below.refl _ _⟩
    have hl := hr1 (by omega)
    clear hr1 h1
    go_wp2_with fail
    refine (clone_any w1 ao cap sl HS.out (by omega)).mono ?_
    rintro e w3 ⟨ho, hcp, rfl, hS3, hcap, hb3⟩
    have HS3 := hid hS3
    have HB3 := hid hb3
    clear hS3 hb3
    go_wp2_with (at_make; (refine wpList_make_own _ rfl _ _ 22 rfl w3.heap.size 9 i0 (.string ByteArray.empty) 1 Tryf.underlying22 HI.out.1 HI.out.2.1 HI.out.2.2.1 _ _ _ (sl.length + 1) rfl rfl (by omega) (by rw [HI.out.2.2.2]; omega) (by unfold maxLen; omega) (Nat.le_refl _) ?_))
    intro w4 hown hgrow
    have HG0 : Hid (Built w3 w4 w3.heap.size (.slice (some ⟨w3.heap.size, 0, Option.none⟩) 0 (sl.length + 1)) (sl.take 0)) := ⟨by simpa using hown, (Below.refl _ _).grown hgrow (Nat.le_refl _) (by simp)⟩
    clear hown hgrow
    go_wp2_with fail
    go_loopw [9, 10] (fun v iv wr => ∃ i : Nat, i ≤ p ∧ iv = .int .i64 i ∧ Hid (Built w3 wr w3.heap.size v (sl.take i))) (fun _ i _ => p - (intOf i).toNat)
    case atStart => exact ⟨0, Nat.zero_le _, rfl, HG0⟩
    case round =>
      clear HG0
      obtain ⟨i, hip, rfl, HG⟩ := hrel
      by_cases hlt : i < p
      · obtain ⟨b, off, s, rfl, hb, hc, hs, hz⟩ := HS3.out.at (j := i) (by omega)
        have d1 : wr.cell? ⟨b, off + i, Option.none⟩ = some (.string s) := (HG.out.bel.cell (by exact hb)).trans hc
        have hzz : w3.heap.size ≤ wr.heap.size := HG.out.bel.size
        have hil : (sl.take i).length ≤ 131072 := by simp; omega
        have HT := hid (take_step hs)
        clear hc hs
        generalize sl.take i = gl at HG hil HT
        go_wp2_with (at_builtin; (refine wpList_append_own _ rfl (.tmp 60) (.tmp 65) 22 rfl w3.heap.size 9 i0 (.string ByteArray.empty) 1 16 Tryf.underlying22 HI.out.1 HI.out.2.1 HI.out.2.2.1 HI.out.2.2.2 rfl (by decide) _ gl.length (gl.map Value.string) rfl (HG.out.own.alloc _) ⟨wr.heap.size, 0, Option.none⟩ 1 1 [.string s] rfl rfl (one_new _ _ _ _ (by simp)) (one_cell s) (by unfold maxLen; omega) (by omega) (by simp; omega) ?_))
        intro v' w5 hown hgrow _
        have HG' := hid (HG.out.step hzz hown hgrow)
        rw [HT.out] at HG'
        clear hown hgrow HG d1
        go_wp2_with fail
        go_roundw
        case rel => exact ⟨i + 1, by omega, by go_num, HG'⟩
        case measure => simp [intOf]; omega
      · have hip' : i = p := by omega
        subst hip'
        have hil : (sl.take i).length ≤ 131072 := by simp; omega
        have hzz : w3.heap.size ≤ wr.heap.size := HG.out.bel.size
        generalize hgl : sl.take i = gl at HG hil
        have HGL := hid hgl
        clear hgl
        go_wp2_with (at_builtin; (refine wpList_append_own _ rfl (.tmp 67) (.tmp 69) 22 rfl w3.heap.size 9 i0 (.string ByteArray.empty) 1 16 Tryf.underlying22 HI.out.1 HI.out.2.1 HI.out.2.2.1 HI.out.2.2.2 rfl (by decide) _ gl.length (gl.map Value.string) rfl (HG.out.own.alloc _) ⟨wr.heap.size, 0, Option.none⟩ 1 1 [.string x] rfl rfl (one_new _ _ _ _ (by simp)) (one_cell x) (by unfold maxLen; omega) (by omega) (by simp; omega) ?_))
        intro v' w5 hown hgrow _
        have HG' := hid (HG.out.step hzz hown hgrow)
        clear hown hgrow HG hil hzz
        have e0 : gl ++ [x] = sl.take i ++ x :: (sl.drop i).take (i - i) := by rw [HGL.out]; simp
        rw [e0] at HG'
        clear e0 HGL gl
        have hp2 : i ≤ sl.length := hp
        go_wp2_with fail
        go_loopw [9, 11] (fun v qv wr => ∃ q : Nat, i ≤ q ∧ q ≤ sl.length ∧ qv = .int .i64 q ∧ Hid (Built w3 wr w3.heap.size v (sl.take i ++ x :: (sl.drop i).take (q - i)))) (fun _ q _ => sl.length - (intOf q).toNat)
        case atStart => exact ⟨i, Nat.le_refl _, hp, rfl, HG'⟩
        case round =>
          clear HG'
          obtain ⟨q, hiq, hql, rfl, HG⟩ := hrel
          by_cases hlt2 : q < sl.length
          · obtain ⟨b, off, s, rfl, hb, hc, hs, hz⟩ := HS3.out.at (j := q) hlt2
            have d1 : wr.cell? ⟨b, off + q, Option.none⟩ = some (.string s) := (HG.out.bel.cell (by exact hb)).trans hc
            have hzz : w3.heap.size ≤ wr.heap.size := HG.out.bel.size
            have hil : (sl.take i ++ x :: (sl.drop i).take (q - i)).length ≤ 131073 := by simp; omega
            have HT := hid (ins_step (x := x) hiq hs)
            clear hc hs
            generalize sl.take i ++ x :: (sl.drop i).take (q - i) = gl at HG hil HT
            go_wp2_with (at_builtin; (refine wpList_append_own _ rfl (.tmp 78) (.tmp 83) 22 rfl w3.heap.size 9 i0 (.string ByteArray.empty) 1 16 Tryf.underlying22 HI.out.1 HI.out.2.1 HI.out.2.2.1 HI.out.2.2.2 rfl (by decide) _ gl.length (gl.map Value.string) rfl (HG.out.own.alloc _) ⟨wr.heap.size, 0, Option.none⟩ 1 1 [.string s] rfl rfl (one_new _ _ _ _ (by simp)) (one_cell s) (by unfold maxLen; omega) (by omega) (by simp; omega) ?_))
            intro v' w5 hown hgrow _
            have HG' := hid (HG.out.step hzz hown hgrow)
            rw [HT.out] at HG'
            clear hown hgrow HG d1
            go_wp2_with fail
            go_roundw
            case rel => exact ⟨q + 1, by omega, by omega, by go_num, HG'⟩
            case measure => simp [intOf]; omega
          · have hq : q = sl.length := by omega
            subst hq
            rw [List.take_of_length_le (show (sl.drop i).length ≤ sl.length - i by simp)] at HG
            have HIF := hid (fun (r : Int) (h : IsF sl c r) => isF_insert (x := x) i hp h)
            have HCN := hid (cn_insert sl c x i)
            have hgs : ∀ s ∈ sl.take i ++ x :: sl.drop i, s.size ≤ maxLen := by
              intro s hs
              simp only [List.mem_append, List.mem_cons] at hs
              rcases hs with hs | hs | hs
              · exact HS3.out.2 s (List.mem_of_mem_take hs)
              · subst hs; unfold maxLen; omega
              · exact HS3.out.2 s (List.mem_of_mem_drop hs)
            obtain ⟨g, gcap, rfl, hG6, hgc, _⟩ := HG.out.strs hgs (by simp; omega)
            have hgl : (sl.take i ++ x :: sl.drop i).length ≤ 131073 := by simp; omega
            generalize wr = w6 at *
            have HS6 := hid (HS3.out.below HG.out.bel)
            have HB6 := hid (HB3.out.trans (HG.out.bel.mono HB3.out.size))
            have HG6 := hid hG6
            clear hG6 hgs HG
            generalize sl.take i ++ x :: sl.drop i = gl at *
            go_wp2_with fail
            -- the reader of the header
            refine (newR_any w6 _ ho sl.length hcp 1).mono ?_
            rintro e w7 ⟨ra, rfl, hRa, hra, hb7⟩
            have HRa := hid hRa
            have HB7 := hid hb7
            have HRA := hid hra
            clear hRa hb7 hra
            go_wp2_with fail
            refine (zfind_any _ c ho hcp sl 1 .nilIface ra w7 HRa.out (HS6.out.below HB7.out) (by omega) hcap (Or.inl rfl)).mono ?_
            rintro e w8 ⟨r, ea, rfl, hF, hR8, hf8, hor⟩
            have HF := hid hF
            have HS8 := hid (HS6.out.keep HB7.out hf8 HRA.out)
            have HG8 := hid (HG6.out.keep HB7.out hf8 HRA.out)
            have HB8 := hid (below_keep HB6.out HB7.out hf8 HRA.out)
            have c8 := hR8.cells.2.2.2.1
            have HO := hid hor
            clear hF hR8 hf8 hor HRa HB7 HRA HS6 HG6 HB6
            go_wp2_with fail
            refine (err_any w8 ra ea c8).mono ?_
            rintro e w9 ⟨rfl, rfl⟩
            clear c8
            obtain ⟨bA, hbA, hbA2, hcA⟩ := err_bit HO.out
            have HCA := hid hcA
            clear hcA HO
            go_wp2_with fail
            -- the reader of the grown header
            refine (newR_any w9 _ (some ⟨g, 0, Option.none⟩) gl.length gcap 1).mono ?_
            rintro e w10 ⟨rb, rfl, hRb, hrb, hb10⟩
            have HRb := hid hRb
            have HB10 := hid hb10
            have HRB := hid hrb
            clear hRb hb10 hrb
            go_wp2_with fail
            refine (zfind_any _ c (some ⟨g, 0, Option.none⟩) gcap gl 1 .nilIface rb w10 HRb.out (HG8.out.below HB10.out) (by omega) hgc (Or.inl rfl)).mono ?_
            rintro e w11 ⟨rB, eb, rfl, hFb, hR11, hf11, hor⟩
            have HFB := hid hFb
            have HS11 := hid (HS8.out.keep HB10.out hf11 HRB.out)
            have HB11 := hid (below_keep HB8.out HB10.out hf11 HRB.out)
            have c8 := hR11.cells.2.2.2.1
            have HO := hid hor
            clear hFb hR11 hf11 hor HRb HB10 HRB HS8 HG8 HB8
            go_wp2_with fail
            refine (err_any w11 rb eb c8).mono ?_
            rintro e w12 ⟨rfl, rfl⟩
            clear c8
            obtain ⟨bB, hbB, hbB2, hcB⟩ := err_bit HO.out
            have HCB := hid hcB
            clear hcB HO
            go_wp2_with fail
            refine (firstAt_any w12 ho hcp sl c r HS11.out (by omega) HF.out).mono ?_
            rintro e w13 ⟨rfl, rfl⟩
            go_wp2_with fail
            refine (count_any w13 ho hcp sl c HS11.out (by omega)).mono ?_
            rintro e w14 ⟨rfl, rfl⟩
            clear hbA hbB hbA2 hbB2
            have HV := hid (isF_unique HFB.out (HIF.out r HF.out))
            have hrb2 := isF_bound HF.out
            have hnn := isF_nonneg HF.out
            rw [← cn_pos] at hnn
            have hA := HCA.out
            have hB := HCB.out
            have hN := HCN.out
            clear HCN HCA HCB HIF HF HFB HS11
            generalize cn c sl = k1 at *
            generalize cn c gl = k2 at *
            have HN := hid hN
            have HNN := hid hnn
            clear hN hnn
            have hAd : decide ((2 : Int) ≤ (k1 : Int)) = bA := by
              rw [Bool.eq_iff_iff, hA, decide_eq_true_iff]
              omega
            cases bA <;> cases bB <;> simp only [Bool.false_eq_true, false_iff, true_iff] at hA hB
            all_goals
              by_cases hx : x = c
              · have hxb : (x.toList == c.toList) = true := (Lib.bytes_beq_iff x c).2 hx
                rw [if_pos hx] at HV HN
                clear hx
                by_cases hr0 : r < 0
                · rw [if_pos (Or.inl hr0)] at HV
                  obtain rfl := HV.out
                  have hk := HN.out
                  have hk2 := HNN.out
                  clear HV HN HNN
                  first
                  | (exfalso; omega)
                  | (clear hk hk2; go_wp2_with fail; go_ret; exact ⟨by simp <;> omega, HB11.out⟩)
                · by_cases hri : (i : Int) ≤ r
                  · rw [if_pos (Or.inr hri)] at HV
                    obtain rfl := HV.out
                    have hk := HN.out
                    have hk2 := HNN.out
                    clear HV HN HNN
                    first
                    | (exfalso; omega)
                    | (clear hk hk2; go_wp2_with fail; go_ret; exact ⟨by simp <;> omega, HB11.out⟩)
                  · rw [if_neg (by omega)] at HV
                    obtain rfl := HV.out
                    have hk := HN.out
                    have hk2 := HNN.out
                    clear HV HN HNN
                    first
                    | (exfalso; omega)
                    | (clear hk hk2; go_wp2_with fail; go_ret; exact ⟨by simp <;> omega, HB11.out⟩)
              · have hxb : (x.toList == c.toList) = false := (Lib.bytes_beq_false_iff x c).2 hx
                rw [if_neg hx] at HV HN
                clear hx
                by_cases hri : (i : Int) ≤ r
                · rw [if_pos hri] at HV
                  obtain rfl := HV.out
                  have hk := HN.out
                  have hk2 := HNN.out
                  clear HV HN HNN
                  first
                  | (exfalso; omega)
                  | (clear hk hk2; go_wp2_with fail; go_ret; exact ⟨by simp <;> omega, HB11.out⟩)
                · rw [if_neg hri] at HV
                  obtain rfl := HV.out
                  have hk := HN.out
                  have hk2 := HNN.out
                  clear HV HN HNN
                  first
                  | (exfalso; omega)
                  | (clear hk hk2; go_wp2_with fail; go_ret; exact ⟨by simp <;> omega, HB11.out⟩)
end Go.Proofs.Qxb6616847aFmt
