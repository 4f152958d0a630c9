import Derived.Test.Qxb6617177aRest
namespace Go.Proofs.Qxb6617177a
open Go.RowKit

set_option maxRecDepth 1000000 in
set_option maxHeartbeats 8000000 in
/-- FnSelectsAcceptsExactlyWhatItFinds answers true -/
theorem acc_any (w : World) (ao no : Option Addr) (cap ncap : Nat) (sl ns : List ByteArray) (hS : Strs w ao sl) (hN : Strs w no ns) (hl : sl.length ≤ maxLen) (hnl : ns.length ≤ maxLen) (hcap : sl.length ≤ cap) (hncap : ns.length ≤ ncap) :
    Calls Try.prog 4 #[.slice ao sl.length cap, .slice no ns.length ncap] w fun e w' => e = .returned (.bool true) ∧ Below w.heap.size w w' := by
  have HS := hid hS
  have HN := hid hN
  have hq := neq_nil
  clear hS hN
  obtain ⟨i0, hi, hz0, hz1, hz2⟩ := info_parts Try.info9
  have HI := hid (And.intro hi (And.intro hz0 (And.intro hz1 hz2)))
  clear hi hz0 hz1 hz2
  go_enter Try.func4, Try.ntmps4
  go_wp2_with fail
  refine (zz9_any w ao no cap ncap sl ns HS.out hl HN.out hnl).mono ?_
  rintro e w' ⟨⟨b, rfl⟩, rfl⟩
  cases b with
  | false =>
    go_wp2_with fail
    go_ret
    exact ⟨rfl, Below.refl _ _⟩
  | true =>
    by_cases hA : 4096 < sl.length
    · go_wp2_with fail
      go_ret
      exact ⟨rfl, Below.refl _ _⟩
    by_cases hB : 4096 < ns.length
    · go_wp2_with fail
      go_ret
      exact ⟨rfl, Below.refl _ _⟩
    replace hl : sl.length ≤ 4096 := by omega
    replace hnl : ns.length ≤ 4096 := by omega
    clear hA hB
    go_wp2_with fail
    refine (within_any w' ao no cap ncap sl ns _ HS.out hl HN.out hnl).mono ?_
    rintro e w1 ⟨⟨b, rfl⟩, rfl⟩
    cases b with
    | false =>
      go_wp2_with fail
      go_ret
      exact ⟨rfl, Below.refl _ _⟩
    | true =>
      obtain ⟨X, hX⟩ : ∃ X, X = sl.map Value.string := ⟨_, rfl⟩
      obtain ⟨Y, hY⟩ : ∃ Y, Y = ns.map Value.string := ⟨_, rfl⟩
      have hXl : X.length = sl.length := by rw [hX]; simp
      have hYl : Y.length = ns.length := by rw [hY]; simp
      have HX := hid hX
      have HY := hid hY
      clear hX hY

      go_upto_if 30 with (fail)
      go_cut [0] from 13 (fun s0 wx => ∃ lo lcap, s0 = .slice lo sl.length lcap ∧ sl.length ≤ lcap ∧ Hid (Strs wx lo sl) ∧ Hid (Strs wx no ns) ∧ Hid (Below w1.heap.size w1 wx))

      case first =>
        cases ao with
        | none =>
          go_wp2_with fail
          go_meet
          case rel => exact ⟨_, _, rfl, hcap, HS, HN, Below.refl _ _⟩
        | some a =>
          go_wp2_with (at_make; (refine wpList_make_full _ rfl _ _ 22 rfl w1.heap.size 9 i0 (.string ByteArray.empty) 1 Try.underlying22 HI.out.1 HI.out.2.1 HI.out.2.2.1 _ _ _ _ sl.length rfl rfl rfl rfl (by rw [HI.out.2.2.2]; omega) (by unfold maxLen; omega) (Nat.le_refl _) ?_))
          intro w4 hown hgrow
          have hB4 : Below w1.heap.size w1 w4 := (Below.refl _ _).grown hgrow (Nat.le_refl _) (by simp)
          obtain ⟨cur, hg4, hgl⟩ : ∃ cur : List Value, w4.heap[w1.heap.size]? = some (.cells cur.toArray 9 (0, 0)) ∧ cur.length = sl.length := ⟨_, made_heap hown⟩
          have HG4 := hid hg4
          have HB4 := hid hB4
          clear hown hgrow hg4 hB4
          have q1 : X.length = sl.length.min sl.length := by rw [hXl]; exact (Nat.min_self _).symm
          have Q2 := hid (copy_src (HS.out.below HB4.out) HX.out)
          have Q3 := hid (copy_one HX.out)
          go_wp2_with (refine wpList_copy_splice rfl (.tmp 34) (.tmp 35) 22 22 rfl 9 Try.underlying22 Try.size9 _ _ _ _ _ _ rfl rfl w1.heap.size 0 cur 9 HG4.out X q1 (fun h => ⟨rfl, Q2.out h⟩) (by omega) Q3.out w1.heap.size w1 HB4.out (Nat.le_refl _) ?_)
          intro w5 HG5 hB5
          have HB5 := hid hB5
          clear hB5 HG4 HB4
          rw [splice_all (by omega)] at HG5
          have HS5 := hid (strs_of_heap HX.out HG5.out HS.out.2)
          clear HG5
          go_wp2_with fail
          go_meet
          case rel => exact ⟨_, _, rfl, Nat.le_refl _, HS5, HN.out.below HB5.out, HB5⟩

      case rest =>
      obtain ⟨lo, lcap, rfl, hlc, HS2, HN2, HB2⟩ := hcut
      clear HS HN hcap
      have hwc : w1.heap.size ≤ wc.heap.size := HB2.out.size
      go_upto_if 39 with (fail)
      go_cut [1] from 13 (fun s1 wx => ∃ no ncap, s1 = .slice no ns.length ncap ∧ ns.length ≤ ncap ∧ Hid (Strs wx lo sl) ∧ Hid (Strs wx no ns) ∧ Hid (Below w1.heap.size w1 wx))

      case first =>
        cases no with
        | none =>
          go_wp2_with fail
          go_meet
          case rel => exact ⟨_, _, rfl, hncap, HS2, HN2, HB2⟩
        | some a =>
          go_wp2_with (at_make; (refine wpList_make_full _ rfl _ _ 22 rfl wc.heap.size 9 i0 (.string ByteArray.empty) 1 Try.underlying22 HI.out.1 HI.out.2.1 HI.out.2.2.1 _ _ _ _ ns.length rfl rfl rfl rfl (by rw [HI.out.2.2.2]; omega) (by unfold maxLen; omega) (Nat.le_refl _) ?_))
          intro w4 hown hgrow
          have hB4 : Below wc.heap.size wc w4 := (Below.refl _ _).grown hgrow (Nat.le_refl _) (by simp)
          obtain ⟨cur, hg4, hgl⟩ : ∃ cur : List Value, w4.heap[wc.heap.size]? = some (.cells cur.toArray 9 (0, 0)) ∧ cur.length = ns.length := ⟨_, made_heap hown⟩
          have HG4 := hid hg4
          have HB4 := hid hB4
          clear hown hgrow hg4 hB4
          have q1 : Y.length = ns.length.min ns.length := by rw [hYl]; exact (Nat.min_self _).symm
          have Q2 := hid (copy_src (HN2.out.below HB4.out) HY.out)
          have Q3 := hid (copy_one HY.out)
          go_wp2_with (refine wpList_copy_splice rfl (.tmp 43) (.tmp 44) 22 22 rfl 9 Try.underlying22 Try.size9 _ _ _ _ _ _ rfl rfl wc.heap.size 0 cur 9 HG4.out Y q1 (fun h => ⟨rfl, Q2.out h⟩) (by omega) Q3.out wc.heap.size wc HB4.out (Nat.le_refl _) ?_)
          intro w5 HG5 hB5
          have HB5 := hid hB5
          clear hB5 HG4 HB4
          rw [splice_all (by omega)] at HG5
          have HS5 := hid (strs_of_heap HY.out HG5.out HN2.out.2)
          clear HG5
          go_wp2_with fail
          go_meet
          case rel => exact ⟨_, _, rfl, Nat.le_refl _, HS2.out.below HB5.out, HS5, HB2.out.trans (HB5.out.mono hwc)⟩

      case rest =>
      clear HS2 HN2 HB2 hwc
      obtain ⟨mo, mcap, rfl, hmc, HS3, HN3, HB3⟩ := hcut
      have HT := hid (St.mk HS3.out HN3.out HB3.out)
      clear HX HY hXl hYl X Y hncap HS3 HN3 HB3 hq
      go_wp2_with (at_make; (refine wpList_make_own _ rfl _ _ 22 rfl wc.heap.size 9 i0 (.string ByteArray.empty) 1 Try.underlying22 HI.out.1 HI.out.2.1 HI.out.2.2.1 _ _ _ sl.length rfl rfl (by omega) (by rw [HI.out.2.2.2]; omega) (by unfold maxLen; omega) (Nat.le_refl _) ?_))
      intro w4 hown hgrow
      have HG0 : Hid (Built wc w4 wc.heap.size (.slice (some ⟨wc.heap.size, 0, Option.none⟩) 0 sl.length) (restOf ns (sl.take 0))) := ⟨by simpa [rest_nil] using hown, (Below.refl _ _).grown hgrow (Nat.le_refl _) (by simp)⟩
      clear hown hgrow
      go_wp2_with fail
      go_loopw [7, 8] (fun v iv wr => ∃ i : Nat, i ≤ sl.length ∧ iv = .int .i64 i ∧ Hid (Built wc wr wc.heap.size v (restOf ns (sl.take i)))) (fun _ i _ => sl.length - (intOf i).toNat)
      case atStart => exact ⟨0, Nat.zero_le _, rfl, HG0⟩
      case round =>
        clear HG0
        obtain ⟨i, hip, rfl, HG⟩ := hrel
        by_cases hlt : i < sl.length
        · obtain ⟨b, off, s, rfl, hb, hc, hs, hz⟩ := HT.out.s.at (j := i) hlt
          have d1 : wr.cell? ⟨b, off + i, Option.none⟩ = some (.string s) := (HG.out.bel.cell (by exact hb)).trans hc
          have hzz : wc.heap.size ≤ wr.heap.size := HG.out.bel.size
          by_cases hst : s = star
          · have hq : (s.toList == [42]) = true := by have := (Lib.bytes_beq_iff s star).2 hst; rwa [star_list] at this
            rw [rest_step_yes hs (.inl hst)] at HG
            clear hs hc hst
            go_wp2_with fail
            go_roundw
            case rel => exact ⟨i + 1, by omega, by go_num, HG⟩
            case measure => simp [intOf]; omega
          · have hq : (s.toList == [42]) = false := by have := (Lib.bytes_beq_false_iff s star).2 hst; rwa [star_list] at this
            have HSS := hid (And.intro hs hst)
            clear hs hc hst
            go_wp2_with fail
            refine (has_any _ mo mcap ns s (HT.out.n.below HG.out.bel) (by omega)).mono ?_
            rintro e ws ⟨⟨bb, rfl, hbb⟩, rfl⟩
            have HB := hid hbb
            clear hbb
            cases bb with
            | true =>
              rw [rest_step_yes HSS.out.1 (.inr (HB.out.1 rfl))] at HG
              clear HB HSS
              go_wp2_with fail
              go_roundw
              case rel => exact ⟨i + 1, by omega, by go_num, HG⟩
              case measure => simp [intOf]; omega
            | false =>
              have HTS := hid (rest_step_no HSS.out.1 (ns := ns) (fun hg => hg.elim HSS.out.2 (fun h => by have := HB.out.2 h; cases this)))
              have hil : (restOf ns (sl.take i)).length ≤ 131072 := Nat.le_trans (rest_len _ _) (by simp; omega)
              clear HB HSS
              generalize restOf ns (sl.take i) = gl at HG hil HTS
              go_wp2_with (at_builtin; (refine wpList_append_own _ rfl (.tmp 68) (.tmp 70) 22 rfl wc.heap.size 9 i0 (.string ByteArray.empty) 1 16 Try.underlying22 HI.out.1 HI.out.2.1 HI.out.2.2.1 HI.out.2.2.2 rfl (by decide) _ gl.length (gl.map Value.string) rfl (HG.out.own.alloc _) ⟨ws.heap.size, 0, Option.none⟩ 1 1 [.string s] rfl rfl (one_new _ _ _ _ (by simp)) (one_cell s) (by unfold maxLen; omega) (by omega) (by simp; omega) ?_))
              intro v' w5 hown hgrow _
              have HG' := hid (HG.out.step hzz hown hgrow)
              rw [HTS.out] at HG'
              clear hown hgrow HG d1
              go_wp2_with fail
              go_roundw
              case rel => exact ⟨i + 1, by omega, by go_num, HG'⟩
              case measure => simp [intOf]; omega
        · have hip' : i = sl.length := by omega
          subst hip'
          rw [List.take_of_length_le (Nat.le_refl _)] at HG
          obtain ⟨ro, rcap, rfl, HRS⟩ := HG.out.any (fun s h => HT.out.s.2 s (rest_mem h))
          replace HT := hid (HT.out.step HG.out.bel)
          have HU := hid (St3.mk HT.out.s HT.out.n HRS.out HT.out.b)
          have hrl : (restOf ns sl).length ≤ sl.length := rest_len _ _
          clear HG HRS HT
          generalize hR : restOf ns sl = rl at HU hrl
          have HR := hid hR
          clear hR

          go_wp2_with fail
          refine (zsel_any _ ro mo _ _ _ _ rl ns rfl rfl HU.out.r (by omega) HU.out.n (by omega)).mono ?_
          rintro e w6 ⟨⟨b1, rfl, hb1⟩, hw⟩
          replace HU := hid (HU.out.step hw)
          obtain rfl : b1 = false := by
            cases b1 with
            | false => rfl
            | true => exact absurd (hb1.1 rfl) (by rw [← HR.out]; exact rest_no ns sl)
          clear hb1 hw
          go_upto_region 24 with fail
          go_cut [83] from 13 (fun t wx => t = .bool false ∧ Hid (St3 w1 wx lo mo ro sl ns rl))
          case first =>
            go_wp2_with fail
            refine (zsel_any _ lo mo _ _ _ _ sl ns rfl rfl HU.out.s (by omega) HU.out.n (by omega)).mono ?_
            rintro e w7 ⟨⟨b2, rfl, hb2⟩, hw⟩
            replace HU := hid (HU.out.step hw)
            have H2 := hid (hb2.trans (by rw [← HR.out]; exact rest_lt ns sl : Sel sl ns ↔ rl.length < sl.length))
            clear hb2 hw
            by_cases h0 : rl.length < sl.length
            · obtain rfl : b2 = true := H2.out.2 h0
              have hi0 : decide ((rl.length : Int) < (sl.length : Int)) = true := decide_eq_true (by omega)
              go_wp2_with fail
              go_meet
              case rel => exact ⟨rfl, HU⟩
            · obtain rfl : b2 = false := by
                cases b2 with
                | false => rfl
                | true => exact absurd (H2.out.1 rfl) h0
              have hi0 : decide ((rl.length : Int) < (sl.length : Int)) = false := decide_eq_false (by omega)
              go_wp2_with fail
              go_meet
              case rel => exact ⟨rfl, HU⟩
          case rest =>
          clear HU
          obtain ⟨rfl, HU⟩ := hcut

          go_wp2_with (at_make; (refine wpList_make_own _ rfl _ _ 22 rfl wc.heap.size 9 i0 (.string ByteArray.empty) 1 Try.underlying22 HI.out.1 HI.out.2.1 HI.out.2.2.1 _ _ _ (ns.length + rl.length) rfl rfl (by omega) (by rw [HI.out.2.2.2]; omega) (by unfold maxLen; omega) (Nat.le_refl _) ?_))
          intro w4 hown hgrow
          have HG0 : Hid (Built wc w4 wc.heap.size (.slice (some ⟨wc.heap.size, 0, Option.none⟩) 0 (ns.length + rl.length)) (ns.take 0)) := ⟨by simpa using hown, (Below.refl _ _).grown hgrow (Nat.le_refl _) (by simp)⟩
          clear hown hgrow
          go_wp2_with fail
          go_loopw [10, 11] (fun v iv wr => ∃ i : Nat, i ≤ ns.length ∧ iv = .int .i64 i ∧ Hid (Built wc wr wc.heap.size v (ns.take i))) (fun _ i _ => ns.length - (intOf i).toNat)
          case atStart => exact ⟨0, Nat.zero_le _, rfl, HG0⟩
          case round =>
            clear HG0
            obtain ⟨i, hip, rfl, HG⟩ := hrel
            by_cases hlt : i < ns.length
            · obtain ⟨b, off, s, rfl, hb, hc, hs, hz⟩ := HU.out.n.at (j := i) hlt
              have d1 : wr.cell? ⟨b, off + i, Option.none⟩ = some (.string s) := (HG.out.bel.cell (by exact hb)).trans hc
              have hzz : wc.heap.size ≤ wr.heap.size := HG.out.bel.size
              have HTS := hid (take_step hs)
              have hil : (ns.take i).length ≤ 131072 := by simp; omega
              clear hs hc
              generalize ns.take i = gl at HG hil HTS
              go_wp2_with (at_builtin; (refine wpList_append_own _ rfl (.tmp 96) (.tmp 101) 22 rfl wc.heap.size 9 i0 (.string ByteArray.empty) 1 16 Try.underlying22 HI.out.1 HI.out.2.1 HI.out.2.2.1 HI.out.2.2.2 rfl (by decide) _ gl.length (gl.map Value.string) rfl (HG.out.own.alloc _) ⟨wr.heap.size, 0, Option.none⟩ 1 1 [.string s] rfl rfl (one_new _ _ _ _ (by simp)) (one_cell s) (by unfold maxLen; omega) (by omega) (by simp; omega) ?_))
              intro v' w5 hown hgrow _
              have HG' := hid (HG.out.step hzz hown hgrow)
              rw [HTS.out] at HG'
              clear hown hgrow HG d1
              go_wp2_with fail
              go_roundw
              case rel => exact ⟨i + 1, by omega, by go_num, HG'⟩
              case measure => simp [intOf]; omega
            · have hip' : i = ns.length := by omega
              subst hip'
              rw [List.take_of_length_le (Nat.le_refl _)] at HG
              have HG0 : Hid (Built wc wr wc.heap.size _ (ns ++ rl.take 0)) := (show Built wc wr wc.heap.size _ (ns ++ rl.take 0) by rw [List.take_zero, List.append_nil]; exact HG.out)
              clear HG
              go_wp2_with fail
              go_loopw [10, 12] (fun v iv wr => ∃ i : Nat, i ≤ rl.length ∧ iv = .int .i64 i ∧ Hid (Built wc wr wc.heap.size v (ns ++ rl.take i))) (fun _ i _ => rl.length - (intOf i).toNat)
              case atStart => exact ⟨0, Nat.zero_le _, rfl, HG0⟩
              case round =>
                clear HG0
                obtain ⟨i, hip, rfl, HG⟩ := hrel
                by_cases hlt : i < rl.length
                · obtain ⟨b, off, s, rfl, hb, hc, hs, hz⟩ := HU.out.r.at (j := i) hlt
                  have d1 : wr.cell? ⟨b, off + i, Option.none⟩ = some (.string s) := (HG.out.bel.cell (by exact hb)).trans hc
                  have hzz : wc.heap.size ≤ wr.heap.size := HG.out.bel.size
                  have HTS := hid (app_step (l := ns) hs)
                  have hil : (ns ++ rl.take i).length ≤ 131072 := by simp; omega
                  clear hs hc
                  generalize ns ++ rl.take i = gl at HG hil HTS
                  go_wp2_with (at_builtin; (refine wpList_append_own _ rfl (.tmp 109) (.tmp 114) 22 rfl wc.heap.size 9 i0 (.string ByteArray.empty) 1 16 Try.underlying22 HI.out.1 HI.out.2.1 HI.out.2.2.1 HI.out.2.2.2 rfl (by decide) _ gl.length (gl.map Value.string) rfl (HG.out.own.alloc _) ⟨wr.heap.size, 0, Option.none⟩ 1 1 [.string s] rfl rfl (one_new _ _ _ _ (by simp)) (one_cell s) (by unfold maxLen; omega) (by omega) (by simp; omega) ?_))
                  intro v' w5 hown hgrow _
                  have HG' := hid (HG.out.step hzz hown hgrow)
                  rw [HTS.out] at HG'
                  clear hown hgrow HG d1
                  go_wp2_with fail
                  go_roundw
                  case rel => exact ⟨i + 1, by omega, by go_num, HG'⟩
                  case measure => simp [intOf]; omega
                · have hip' : i = rl.length := by omega
                  subst hip'
                  rw [List.take_of_length_le (Nat.le_refl _)] at HG
                  obtain ⟨wo, wcap, rfl, HWS⟩ := HG.out.any (fun s h => (List.mem_append.1 h).elim (HU.out.n.2 s) (HU.out.r.2 s))
                  replace HU := hid (HU.out.step HG.out.bel)
                  have hwl : (ns ++ rl).length ≤ 1000000 := by simp; omega
                  clear HG
                  generalize hW : ns ++ rl = wl at HWS hwl
                  have HW := hid hW
                  clear hW
                  go_wp2_with fail
                  refine (zsel_any _ lo wo _ _ _ _ sl wl rfl rfl HU.out.s (by omega) HWS.out hwl).mono ?_
                  rintro e w14 ⟨⟨b5, rfl, hb5⟩, hw⟩
                  replace HU := hid (HU.out.step hw)
                  have H5 := hid (hb5.trans (by rw [← HW.out, ← HR.out]; exact sel_wide ns sl : Sel sl wl ↔ 0 < sl.length))
                  clear hb5 hw
                  by_cases h0 : 0 < sl.length
                  · obtain rfl : b5 = true := H5.out.2 h0
                    have hi0 : decide ((0 : Int) < (sl.length : Int)) = true := decide_eq_true (by omega)
                    go_wp2_with fail
                    go_ret
                    exact ⟨rfl, HU.out.b⟩
                  · obtain rfl : b5 = false := by
                      cases b5 with
                      | false => rfl
                      | true => exact absurd (H5.out.1 rfl) h0
                    have hi0 : decide ((0 : Int) < (sl.length : Int)) = false := decide_eq_false (by omega)
                    go_wp2_with fail
                    go_ret
                    exact ⟨rfl, HU.out.b⟩

end Go.Proofs.Qxb6617177a
