import Derived.Test.Qxb6616847aFmtCol
import Derived.Deep.QuietTactic
import Derived.BigQuiet
namespace Go.Proofs.Qxb6616847aFmt
open Go.RowKit

set_option maxRecDepth 1000000 in
set_option maxHeartbeats 400000 in
/-- the ways out ahead of the law proper -/
theorem dbl_out (w : World) (ao : Option Addr) (cap : Nat) (sl : List ByteArray) (c x : ByteArray) (hS : Strs w ao sl) (h1 : sl.length ≤ maxLen) (h2 : c.size ≤ maxLen) (h3 : x.size ≤ maxLen)
    (h : 1048576 < c.size ∨ 1048576 < x.size) :
    Calls Tryf.prog 4 #[.slice ao sl.length cap, .string c, .string x] w fun e w' => e = .returned (.bool true) ∧ Below w.heap.size w w' := by
  have HS := hid hS
  have H := hid h
  clear hS h
  go_enter Tryf.func4, Tryf.ntmps4
  go_wp2_with fail
  refine (zz14_any w ao cap sl c x HS.out h1).mono ?_
  rintro e w' ⟨⟨b, rfl⟩, rfl⟩
  unfold maxLen at h2 h3
  cases b with
  | false =>
    go_wp2_with fail
    go_ret
    exact ⟨rfl, Below.refl _ _⟩
  | true =>
    by_cases q : 1048576 < c.size
    · go_wp2_with fail
      go_ret
      exact ⟨rfl, Below.refl _ _⟩
    · have q2 : 1048576 < x.size := by have := H.out; omega
      go_wp2_with fail
      go_ret
      exact ⟨rfl, Below.refl _ _⟩

theorem dbl_step {l : List ByteArray} {s : ByteArray} {i : Nat} (hs : l[i]? = some s) : (l ++ l.take i) ++ [s] = l ++ l.take (i + 1) := by
  rw [List.append_assoc, take_step hs]

theorem Built.strs0 {w0 w : World} {B : Nat} {v : Value} {gl : List ByteArray} (h : Built w0 w B v gl) (hs : ∀ s ∈ gl, s.size ≤ maxLen) : ∃ ao cap, v = .slice ao gl.length cap ∧ Strs w ao gl ∧ gl.length ≤ cap := by
  by_cases hne : 0 < gl.length
  · obtain ⟨g, cap, h1, h2, h3, _⟩ := h.strs hs hne
    exact ⟨_, cap, h1, h2, h3⟩
  · obtain rfl : gl = [] := List.eq_nil_of_length_eq_zero (by omega)
    obtain ⟨ao, cap, hv⟩ := owns_slice h.own
    exact ⟨ao, cap, hv, strs_empty _ _, Nat.zero_le _⟩

theorem isF_exists (l : List ByteArray) (c : ByteArray) : ∃ r, IsF l c r := by
  by_cases h : c ∈ l
  · obtain ⟨i, hi, he⟩ := List.getElem_of_mem h
    have key : ∀ n : Nat, (∃ k : Nat, k < n ∧ l[k]? = some c) → ∃ r, IsF l c r := by
      intro n
      induction n with
      | zero => rintro ⟨k, hk, _⟩; omega
      | succ n ih =>
        rintro ⟨k, hk, hkc⟩
        by_cases hb : ∃ m : Nat, m < k ∧ l[m]? = some c
        · obtain ⟨m, hm, hmc⟩ := hb
          exact ih ⟨m, by omega, hmc⟩
        · refine ⟨k, Or.inr ⟨k, rfl, hkc, fun hm => hb ?_⟩⟩
          obtain ⟨m, hm1, hm2⟩ := List.getElem_of_mem hm
          simp at hm1
          exact ⟨m, by omega, by simp at hm2; rw [List.getElem?_eq_getElem (by omega), hm2]⟩
    exact key (i + 1) ⟨i, by omega, by rw [List.getElem?_eq_getElem hi, he]⟩
  · exact ⟨-1, Or.inl ⟨rfl, h⟩⟩
theorem isF_undouble {l : List ByteArray} {c : ByteArray} {r : Int} (h : IsF (l ++ l) c r) : IsF l c r := by
  obtain ⟨s, hs⟩ := isF_exists l c
  rw [isF_unique h (isF_double hs)]
  exact hs

/-- 'err != nil' behind a find -/
theorem err_bit2 {e0 ea : Value} {k : Nat} (h : (ea = .nilIface ∧ e0 = .nilIface ∧ k < 2) ∨ ((∃ t x, ea = .iface t x) ∧ ((∃ t x, e0 = .iface t x) ∨ 2 ≤ k))) :
    ∃ b : Bool, (∀ w, (binOp .neq 30 ea .nilIface).run Tryf.prog w = .ok (.bool b) w) ∧ (∀ (w : World) (x : Operand) (v : Value), (eqGuard .neq 30 x (.const v) ea .nilIface).run Tryf.prog w = .ok () w) ∧
      (b = true ↔ ((∃ t x, e0 = .iface t x) ∨ 2 ≤ k)) ∧ (b = true ↔ ∃ t x, ea = .iface t x) ∧ (ea = .nilIface ∨ ∃ t x, ea = .iface t x) := by
  rcases h with ⟨rfl, rfl, h2⟩ | ⟨⟨t, y, rfl⟩, h2⟩
  · refine ⟨false, fun w => neq_nil w, fun w x v => by simp [eqGuard], ⟨fun h => (by cases h), fun h => ?_⟩, ⟨fun h => (by cases h), fun ⟨t, x, h⟩ => (by cases h)⟩, Or.inl rfl⟩
    rcases h with ⟨t, x, h⟩ | h
    · cases h
    · omega
  · exact ⟨true, fun w => neq_held w t y, fun w x v => by simp [eqGuard], ⟨fun _ => h2, fun _ => rfl⟩, ⟨fun _ => ⟨t, y, rfl⟩, fun _ => rfl⟩, Or.inr ⟨t, y, rfl⟩⟩

set_option maxRecDepth 1000000 in
set_option maxHeartbeats 2000000 in
theorem dbl_main (w : World) (ao : Option Addr) (cap : Nat) (sl : List ByteArray) (c x : ByteArray) (hS : Strs w ao sl) (h1 : sl.length ≤ maxLen) (h2 : c.size ≤ 1048576) (h3 : x.size ≤ 1048576) :
    Calls Tryf.prog 4 #[.slice ao sl.length cap, .string c, .string x] w fun e w' => e = .returned (.bool true) ∧ Below w.heap.size w w' := by
  have HS := hid hS
  clear hS
  obtain ⟨i0, hi, hz0, hz1, hz2⟩ := info_parts Tryf.info9
  have HI := hid (And.intro hi (And.intro hz0 (And.intro hz1 hz2)))
  clear hi hz0 hz1 hz2
  go_enter Tryf.func4, Tryf.ntmps4
  go_wp2_with fail
  refine (zz14_any w ao cap sl c x HS.out h1).mono ?_
  rintro e w' ⟨⟨b, rfl⟩, rfl⟩
  cases b with
  | false =>
    go_wp2_with fail
    go_ret
    exact ⟨rfl, Below.refl _ _⟩
  | true =>
    go_wp2_with fail
    refine (addStr_any w' ao cap sl _ HS.out h1).mono ?_
    rintro e w1 ⟨⟨r1, rfl, hr1⟩, rfl⟩
    by_cases q1 : 1048576 < r1
    · clear hr1
      go_wp2_with fail
      go_ret
      exact ⟨rfl, Below.refl _ _⟩
    have hl := hr1 (by omega)
    clear hr1 h1
    go_wp2_with fail
    refine (clone_any w1 ao cap sl HS.out (by omega)).mono ?_
    rintro e w3 ⟨ho, hcp, rfl, hS3, hcap, hb3⟩
    have HS3 := hid hS3
    have HB3 := hid hb3
    clear hS3 hb3
    go_wp2_with (at_make; (refine wpList_make_own _ rfl _ _ 22 rfl w3.heap.size 9 i0 (.string ByteArray.empty) 1 Tryf.underlying22 HI.out.1 HI.out.2.1 HI.out.2.2.1 _ _ _ (2 * sl.length) rfl rfl (by omega) (by rw [HI.out.2.2.2]; omega) (by unfold maxLen; omega) (Nat.le_refl _) ?_))
    intro w4 hown hgrow
    have HG0 : Hid (Built w3 w4 w3.heap.size (.slice (some ⟨w3.heap.size, 0, Option.none⟩) 0 (2 * sl.length)) (sl.take 0)) := ⟨by simpa using hown, (Below.refl _ _).grown hgrow (Nat.le_refl _) (by simp)⟩
    clear hown hgrow
    go_wp2_with fail
    go_loopw [7, 8] (fun v iv wr => ∃ i : Nat, i ≤ sl.length ∧ iv = .int .i64 i ∧ Hid (Built w3 wr w3.heap.size v (sl.take i))) (fun _ i _ => sl.length - (intOf i).toNat)
    case atStart => exact ⟨0, Nat.zero_le _, rfl, HG0⟩
    case round =>
      clear HG0
      obtain ⟨i, hip, rfl, HG⟩ := hrel
      by_cases hlt : i < sl.length
      · obtain ⟨b, off, s, rfl, hb, hc, hs, hz⟩ := HS3.out.at (j := i) (by omega)
        have d1 : wr.cell? ⟨b, off + i, Option.none⟩ = some (.string s) := (HG.out.bel.cell (by exact hb)).trans hc
        have hzz : w3.heap.size ≤ wr.heap.size := HG.out.bel.size
        have hil : (sl.take i).length ≤ 131072 := by simp; omega
        have HT := hid (take_step hs)
        clear hc hs
        generalize sl.take i = gl at HG hil HT
        go_wp2_with (at_builtin; (refine wpList_append_own _ rfl (.tmp 47) (.tmp 52) 22 rfl w3.heap.size 9 i0 (.string ByteArray.empty) 1 16 Tryf.underlying22 HI.out.1 HI.out.2.1 HI.out.2.2.1 HI.out.2.2.2 rfl (by decide) _ gl.length (gl.map Value.string) rfl (HG.out.own.alloc _) ⟨wr.heap.size, 0, Option.none⟩ 1 1 [.string s] rfl rfl (one_new _ _ _ _ (by simp)) (one_cell s) (by unfold maxLen; omega) (by omega) (by simp; omega) ?_))
        intro v' w5 hown hgrow _
        have HG' := hid (HG.out.step hzz hown hgrow)
        rw [HT.out] at HG'
        clear hown hgrow HG d1
        go_wp2_with fail
        go_roundw
        case rel => exact ⟨i + 1, by omega, by go_num, HG'⟩
        case measure => simp [intOf]; omega
      · have hip' : i = sl.length := by omega
        subst hip'
        rw [show sl.take sl.length = sl ++ sl.take 0 by simp] at HG
        go_wp2_with fail
        go_loopw [7, 9] (fun v qv wr => ∃ q : Nat, q ≤ sl.length ∧ qv = .int .i64 q ∧ Hid (Built w3 wr w3.heap.size v (sl ++ sl.take q))) (fun _ q _ => sl.length - (intOf q).toNat)
        case atStart => exact ⟨0, Nat.zero_le _, rfl, HG⟩
        case round =>
          clear HG
          obtain ⟨q, hql, rfl, HG⟩ := hrel
          by_cases hlt2 : q < sl.length
          · obtain ⟨b, off, s, rfl, hb, hc, hs, hz⟩ := HS3.out.at (j := q) hlt2
            have d1 : wr.cell? ⟨b, off + q, Option.none⟩ = some (.string s) := (HG.out.bel.cell (by exact hb)).trans hc
            have hzz : w3.heap.size ≤ wr.heap.size := HG.out.bel.size
            have hil : (sl ++ sl.take q).length ≤ 262144 := by simp; omega
            have HT := hid (dbl_step hs)
            clear hc hs
            generalize sl ++ sl.take q = gl at HG hil HT
            go_wp2_with (at_builtin; (refine wpList_append_own _ rfl (.tmp 60) (.tmp 65) 22 rfl w3.heap.size 9 i0 (.string ByteArray.empty) 1 16 Tryf.underlying22 HI.out.1 HI.out.2.1 HI.out.2.2.1 HI.out.2.2.2 rfl (by decide) _ gl.length (gl.map Value.string) rfl (HG.out.own.alloc _) ⟨wr.heap.size, 0, Option.none⟩ 1 1 [.string s] rfl rfl (one_new _ _ _ _ (by simp)) (one_cell s) (by unfold maxLen; omega) (by omega) (by simp; omega) ?_))
            intro v' w5 hown hgrow _
            have HG' := hid (HG.out.step hzz hown hgrow)
            rw [HT.out] at HG'
            clear hown hgrow HG d1
            go_wp2_with fail
            go_roundw
            case rel => exact ⟨q + 1, by omega, by go_num, HG'⟩
            case measure => simp [intOf]; omega
          · have hq : q = sl.length := by omega
            subst hq
            rw [List.take_length] at HG
            have hgs : ∀ s ∈ sl ++ sl, s.size ≤ maxLen := by
              intro s hs
              simp only [List.mem_append] at hs
              exact HS3.out.2 s (hs.elim id id)
            obtain ⟨go, gcap, rfl, hG6, hgc⟩ := HG.out.strs0 hgs
            have hgl : (sl ++ sl).length ≤ 262144 := by simp; omega
            generalize wr = w6 at *
            have HS6 := hid (HS3.out.below HG.out.bel)
            have HB6 := hid (HB3.out.trans (HG.out.bel.mono HB3.out.size))
            have HG6 := hid hG6
            have HUN := hid (fun (d : ByteArray) (r : Int) (h : IsF (sl ++ sl) d r) => isF_undouble h)
            have HCN := hid (fun (d : ByteArray) => cn_append d sl sl)
            clear hG6 hgs HG
            generalize sl ++ sl = gl at *
            go_wp2_with fail
            -- the reader of the header
            refine (newR_any w6 _ ho sl.length hcp 1).mono ?_
            rintro e w7 ⟨ra, rfl, hRa, hra, hb7⟩
            have HRa := hid hRa
            have HB7 := hid hb7
            have HRA := hid hra
            clear hRa hb7 hra
            go_wp2_with fail
            refine (zfind_any _ c ho hcp sl 1 .nilIface ra w7 HRa.out (HS6.out.below HB7.out) (by omega) hcap (Or.inl rfl)).mono ?_
            rintro e w8 ⟨r, ea, rfl, hF, hR8, hf8, hor⟩
            have HF := hid hF
            have HS8 := hid (HS6.out.keep HB7.out hf8 HRA.out)
            have HG8 := hid (HG6.out.keep HB7.out hf8 HRA.out)
            have HB8 := hid (below_keep HB6.out HB7.out hf8 HRA.out)
            have C8 := hid hR8.cells.2.2.2.1
            obtain ⟨bA, hbA, hbA2, hcA, _, _⟩ := err_bit2 hor
            have hcA' : bA = decide ((2 : Int) ≤ (cn c sl : Int)) := by
              rw [Bool.eq_iff_iff, hcA, decide_eq_true_iff]
              constructor
              · rintro (⟨t, y, h⟩ | h)
                · cases h
                · omega
              · intro h; exact Or.inr (by omega)
            clear hF hR8 hf8 hor HRa HB7 HRA HS6 HG6 HB6 hcA
            subst hcA'
            go_wp2_with fail
            refine (firstAt_any w8 ho hcp sl c r HS8.out (by omega) HF.out).mono ?_
            rintro e w9 ⟨rfl, rfl⟩
            go_wp2_with fail
            go_quiet ((first | (go_at_call 11; exact Calls.quiet_of_same (err_any _ ra ea C8.out)) | (go_at_call 13; exact Calls.quiet_of_same (count_any _ ho hcp sl c HS8.out (by omega)))))
            clear hbA hbA2 C8
            have hDr : Below w9.heap.size w9 (w9.drewN nq) := below_drewN (Below.refl _ _) _
            have HS10 := hid (HS8.out.below hDr)
            have HG10 := hid (HG8.out.below hDr)
            have HB10 := hid (HB8.out.trans (hDr.mono HB8.out.size))
            clear hDr HS8 HG8 HB8
            generalize w9.drewN nq = w10 at *
            go_wp2_with fail
            -- the reader of the doubled header
            refine (newR_any w10 _ go gl.length gcap 1).mono ?_
            rintro e w11 ⟨rd, rfl, hRd, hrd, hb11⟩
            have HRd := hid hRd
            have HB11 := hid hb11
            have HRD := hid hrd
            clear hRd hb11 hrd
            go_wp2_with fail
            refine (zfind_any _ c go gcap gl 1 .nilIface rd w11 HRd.out (HG10.out.below HB11.out) (by omega) hgc (Or.inl rfl)).mono ?_
            rintro e w12 ⟨rB, ed, rfl, hFd, hR12, hf12, hor⟩
            obtain rfl : rB = r := isF_unique (HUN.out c rB hFd) HF.out
            have HS12 := hid (HS10.out.keep HB11.out hf12 HRD.out)
            have HGB := hid (show ∀ b off, ho = some ⟨b, off, Option.none⟩ → sl ≠ [] → b < rd from fun b off e1 e2 => by
              obtain ⟨b', off', h1, h2, _⟩ := HS10.out.1 0 (by cases sl; exact absurd rfl e2; simp)
              rw [e1] at h1
              obtain ⟨rfl, _⟩ : b = b' ∧ off = off' := by simpa using h1
              have := HRD.out
              omega)
            have HG12 := hid (HG10.out.keep HB11.out hf12 HRD.out)
            have HB12 := hid (below_keep HB10.out HB11.out hf12 HRD.out)
            have HRD' : Hid (w1.heap.size ≤ rd) := Nat.le_trans HB10.out.size HRD.out
            have C12 := hid hR12.cells.2.2.2.1
            have HR12 := hid hR12
            obtain ⟨bD, hbD, hbD2, hcD, hcD2, hcD3⟩ := err_bit2 hor
            have hnn := isF_nonneg HF.out
            rw [← cn_pos] at hnn
            have hcc := HCN.out c
            have hcD' : bD = decide ((0 : Int) ≤ rB) := by
              rw [Bool.eq_iff_iff, hcD, decide_eq_true_iff]
              constructor
              · rintro (⟨t, y, h⟩ | h)
                · cases h
                · omega
              · intro h; exact Or.inr (by omega)
            have HD2 : Hid ((0 : Int) ≤ rB ↔ ∃ t x, ed = .iface t x) := by unfold Hid; rw [← hcD2, hcD', decide_eq_true_iff]
            have HD3 := hid hcD3
            clear hFd hR12 hf12 hor HRd HB11 HRD HS10 HG10 HB10 hcD hcD2 hcD3 hnn hcc
            subst hcD'
            go_wp2_with fail
            refine (err_any w12 rd ed C12.out).mono ?_
            rintro e w13 ⟨rfl, rfl⟩
            go_wp2_with fail
            clear hbD hbD2
            refine (zfind_any _ x go gcap gl 1 ed rd w13 HR12.out HG12.out (by omega) hgc HD3.out).mono ?_
            rintro e w14 ⟨r2, e2, rfl, hF2, hR14, hf14, hor⟩
            have HF2 := hid (HUN.out x r2 hF2)
            have HS14 := hid (show Strs w14 ho sl from by
              by_cases hs0 : sl = []
              · rw [hs0]; exact strs_empty _ _
              · exact HS12.out.fr hf14 (fun b off e1 e2 => by have := HGB.out b off e1 hs0; omega))
            have HB14 := hid (HB12.out.trans (hf14.below HB12.out.size (fun k hk e => by have := HRD'.out; omega)))
            have C14 := hid hR14.cells.2.2.2.1
            obtain ⟨bE, hbE, hbE2, hcE, _, _⟩ := err_bit2 hor
            have hnn := isF_nonneg HF2.out
            rw [← cn_pos] at hnn
            have hcc := HCN.out x
            have hcE' : bE = (decide ((0 : Int) ≤ rB) || decide ((0 : Int) ≤ r2)) := by
              rw [Bool.eq_iff_iff, hcE, ← HD2.out, Bool.or_eq_true, decide_eq_true_iff, decide_eq_true_iff]
              constructor
              · rintro (h | h)
                · exact Or.inl h
                · exact Or.inr (by omega)
              · rintro (h | h)
                · exact Or.inl h
                · exact Or.inr (by omega)
            clear hF2 hR14 hf14 hor hnn hcc hcE HS12 HG12 HB12 HR12 HD2 HD3 C12
            subst hcE'
            go_wp2_with fail
            refine (firstAt_any w14 ho hcp sl x r2 HS14.out (by omega) HF2.out).mono ?_
            rintro e w15 ⟨rfl, rfl⟩
            go_wp2_with fail
            refine (err_any w15 rd e2 C14.out).mono ?_
            rintro e w16 ⟨rfl, rfl⟩
            by_cases q5 : 0 ≤ rB
            · go_wp2_with fail
              go_ret
              exact ⟨by simp, HB14.out⟩
            · have q5' : rB < 0 := by omega
              go_wp2_with fail
              go_ret
              exact ⟨by simp, HB14.out⟩
end Go.Proofs.Qxb6616847aFmt
