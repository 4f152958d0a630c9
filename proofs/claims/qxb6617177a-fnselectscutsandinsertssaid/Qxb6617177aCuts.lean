import Derived.Test.Qxb6617177aPlain
namespace Go.Proofs.Qxb6617177a
open Go.RowKit

/-- the answer as a value -/
def SaysV (sl ns : List ByteArray) (v : Value) : Prop := ∃ b : Bool, v = .bool b ∧ (b = true ↔ Sel sl ns)

set_option maxRecDepth 1000000 in
set_option maxHeartbeats 8000000 in
theorem cuts_main (w : World) (ao no : Option Addr) (cap ncap : Nat) (sl ns : List ByteArray) (c d p : Nat) (hS : Strs w ao sl) (hN : Strs w no ns) (hl : sl.length ≤ 4096) (hnl : ns.length ≤ 4096) (hcap : sl.length ≤ cap) (hncap : ns.length ≤ ncap)
    (hc : c ≤ sl.length) (hd : d ≤ ns.length) (hp : p ≤ sl.length) :
    Calls Try.prog 3 #[.slice ao sl.length cap, .slice no ns.length ncap, .int .i64 c, .int .i64 d, .int .i64 p] w fun e w' => e = .returned (.bool true) ∧ Below w.heap.size w w' := by
  have HS := hid hS
  have HN := hid hN
  have hq := neq_nil
  clear hS hN
  obtain ⟨i0, hi, hz0, hz1, hz2⟩ := info_parts Try.info9
  have HI := hid (And.intro hi (And.intro hz0 (And.intro hz1 hz2)))
  clear hi hz0 hz1 hz2
  go_enter Try.func3, Try.ntmps3
  go_wp2_with fail
  refine (zz5_any w ao no cap ncap sl ns _ _ _ HS.out (by unfold maxLen; omega) HN.out (by unfold maxLen; omega)).mono ?_
  rintro e w' ⟨⟨b, rfl⟩, rfl⟩
  cases b with
  | false =>
    go_wp2_with fail
    go_ret
    exact ⟨rfl, Below.refl _ _⟩
  | true =>
    go_wp2_with fail
    refine (within_any w' ao no cap ncap sl ns _ HS.out hl HN.out hnl).mono ?_
    rintro e w1 ⟨⟨b, rfl⟩, rfl⟩
    cases b with
    | false =>
      go_wp2_with fail
      go_ret
      exact ⟨rfl, Below.refl _ _⟩
    | true =>
      obtain ⟨X, hX⟩ : ∃ X, X = sl.map Value.string := ⟨_, rfl⟩
      obtain ⟨Y, hY⟩ : ∃ Y, Y = ns.map Value.string := ⟨_, rfl⟩
      have hXl : X.length = sl.length := by rw [hX]; simp
      have hYl : Y.length = ns.length := by rw [hY]; simp
      have HX := hid hX
      have HY := hid hY
      clear hX hY

      go_upto_if 68 with (fail)
      go_cut [0] from 20 (fun s0 wx => ∃ lo lcap, s0 = .slice lo sl.length lcap ∧ sl.length ≤ lcap ∧ Hid (Strs wx lo sl) ∧ Hid (Strs wx no ns) ∧ Hid (Below w1.heap.size w1 wx))

      case first =>
        cases ao with
        | none =>
          go_wp2_with fail
          go_meet
          case rel => exact ⟨_, _, rfl, hcap, HS, HN, Below.refl _ _⟩
        | some a =>
          go_wp2_with (at_make; (refine wpList_make_full _ rfl _ _ 22 rfl w1.heap.size 9 i0 (.string ByteArray.empty) 1 Try.underlying22 HI.out.1 HI.out.2.1 HI.out.2.2.1 _ _ _ _ sl.length rfl rfl rfl rfl (by rw [HI.out.2.2.2]; omega) (by unfold maxLen; omega) (Nat.le_refl _) ?_))
          intro w4 hown hgrow
          have hB4 : Below w1.heap.size w1 w4 := (Below.refl _ _).grown hgrow (Nat.le_refl _) (by simp)
          obtain ⟨cur, hg4, hgl⟩ : ∃ cur : List Value, w4.heap[w1.heap.size]? = some (.cells cur.toArray 9 (0, 0)) ∧ cur.length = sl.length := ⟨_, made_heap hown⟩
          have HG4 := hid hg4
          have HB4 := hid hB4
          clear hown hgrow hg4 hB4
          have q1 : X.length = sl.length.min sl.length := by rw [hXl]; exact (Nat.min_self _).symm
          have Q2 := hid (copy_src (HS.out.below HB4.out) HX.out)
          have Q3 := hid (copy_one HX.out)
          go_wp2_with (refine wpList_copy_splice rfl (.tmp 72) (.tmp 73) 22 22 rfl 9 Try.underlying22 Try.size9 _ _ _ _ _ _ rfl rfl w1.heap.size 0 cur 9 HG4.out X q1 (fun h => ⟨rfl, Q2.out h⟩) (by omega) Q3.out w1.heap.size w1 HB4.out (Nat.le_refl _) ?_)
          intro w5 HG5 hB5
          have HB5 := hid hB5
          clear hB5 HG4 HB4
          rw [splice_all (by omega)] at HG5
          have HS5 := hid (strs_of_heap HX.out HG5.out HS.out.2)
          clear HG5
          go_wp2_with fail
          go_meet
          case rel => exact ⟨_, _, rfl, Nat.le_refl _, HS5, HN.out.below HB5.out, HB5⟩

      case rest =>
      obtain ⟨lo, lcap, rfl, hlc, HS2, HN2, HB2⟩ := hcut
      clear HS HN hcap
      have hwc : w1.heap.size ≤ wc.heap.size := HB2.out.size
      go_upto_if 77 with (fail)
      go_cut [1] from 20 (fun s1 wx => ∃ no ncap, s1 = .slice no ns.length ncap ∧ ns.length ≤ ncap ∧ Hid (Strs wx lo sl) ∧ Hid (Strs wx no ns) ∧ Hid (Below w1.heap.size w1 wx))

      case first =>
        cases no with
        | none =>
          go_wp2_with fail
          go_meet
          case rel => exact ⟨_, _, rfl, hncap, HS2, HN2, HB2⟩
        | some a =>
          go_wp2_with (at_make; (refine wpList_make_full _ rfl _ _ 22 rfl wc.heap.size 9 i0 (.string ByteArray.empty) 1 Try.underlying22 HI.out.1 HI.out.2.1 HI.out.2.2.1 _ _ _ _ ns.length rfl rfl rfl rfl (by rw [HI.out.2.2.2]; omega) (by unfold maxLen; omega) (Nat.le_refl _) ?_))
          intro w4 hown hgrow
          have hB4 : Below wc.heap.size wc w4 := (Below.refl _ _).grown hgrow (Nat.le_refl _) (by simp)
          obtain ⟨cur, hg4, hgl⟩ : ∃ cur : List Value, w4.heap[wc.heap.size]? = some (.cells cur.toArray 9 (0, 0)) ∧ cur.length = ns.length := ⟨_, made_heap hown⟩
          have HG4 := hid hg4
          have HB4 := hid hB4
          clear hown hgrow hg4 hB4
          have q1 : Y.length = ns.length.min ns.length := by rw [hYl]; exact (Nat.min_self _).symm
          have Q2 := hid (copy_src (HN2.out.below HB4.out) HY.out)
          have Q3 := hid (copy_one HY.out)
          go_wp2_with (refine wpList_copy_splice rfl (.tmp 81) (.tmp 82) 22 22 rfl 9 Try.underlying22 Try.size9 _ _ _ _ _ _ rfl rfl wc.heap.size 0 cur 9 HG4.out Y q1 (fun h => ⟨rfl, Q2.out h⟩) (by omega) Q3.out wc.heap.size wc HB4.out (Nat.le_refl _) ?_)
          intro w5 HG5 hB5
          have HB5 := hid hB5
          clear hB5 HG4 HB4
          rw [splice_all (by omega)] at HG5
          have HS5 := hid (strs_of_heap HY.out HG5.out HN2.out.2)
          clear HG5
          go_wp2_with fail
          go_meet
          case rel => exact ⟨_, _, rfl, Nat.le_refl _, HS2.out.below HB5.out, HS5, HB2.out.trans (HB5.out.mono hwc)⟩

      case rest =>
      skip
      clear HS2 HN2 HB2 hwc
      obtain ⟨mo, mcap, rfl, hmc, HS3, HN3, HB3⟩ := hcut

      have HT := hid (St.mk HS3.out HN3.out HB3.out)
      clear HX HY hXl hYl X Y HI hq hncap HS3 HN3 HB3
      go_wp2_with fail
      refine (zsel_any _ lo mo _ _ _ _ sl ns rfl rfl HT.out.s (by omega) HT.out.n (by omega)).mono ?_
      rintro e w6 ⟨⟨b, rfl, hb⟩, hw⟩
      replace HT := hid (HT.out.step hw)
      have Hb := hid hb
      clear hb hw
      go_wp2_with fail
      refine (zsel_any _ lo mo _ _ _ _ (sl.take c) ns (by simp; omega) rfl (HT.out.s.take c) (by simp; omega) HT.out.n (by omega)).mono ?_
      rintro e w7 ⟨⟨b1, rfl, hb⟩, hw⟩
      replace HT := hid (HT.out.step hw)
      have Hb1 := hid hb
      clear hb hw
      skip
      go_upto_region 19 with fail
      go_cut [15] from 20 (fun t wx => SaysV (sl.drop c) ns t ∧ Hid (St w1 wx lo mo sl ns))
      case first =>
        by_cases hce : lcap = c
        · subst hce
          go_wp2_with fail
          refine (zsel_any _ _ mo _ _ _ _ (sl.drop lcap) ns (by simp; omega) rfl (strs_none (by omega)) (by simp; omega) HT.out.n (by omega)).mono ?_
          rintro e w8 ⟨⟨b2, rfl, hb⟩, hw⟩
          replace HT := hid (HT.out.step hw)
          have Hb2 := hid hb
          clear hb hw
          go_wp2_with fail
          go_meet
          case rel => exact ⟨⟨_, rfl, Hb2.out⟩, HT⟩
        · go_wp2_with fail
          refine (zsel_any _ _ mo _ _ _ _ (sl.drop c) ns (by simp) rfl (HT.out.s.drop c) (by simp; omega) HT.out.n (by omega)).mono ?_
          rintro e w8 ⟨⟨b2, rfl, hb⟩, hw⟩
          replace HT := hid (HT.out.step hw)
          have Hb2 := hid hb
          clear hb hw
          go_wp2_with fail
          go_meet
          case rel => exact ⟨⟨_, rfl, Hb2.out⟩, HT⟩
      case rest =>
      clear HT
      obtain ⟨⟨b2, rfl, hb2⟩, HT⟩ := hcut
      have HC := hid (bool_or_of_iff Hb.out Hb1.out hb2 (sel_cut sl ns c))
      clear hb2 Hb1
      go_upto_region 20 with fail
      go_cut [103] from 20 (fun t wx => t = .bool false ∧ Hid (St w1 wx lo mo sl ns))
      case first =>
        cases b <;> cases b1 <;> cases b2 <;> first | exact absurd HC.out (by decide) | (go_wp2_with fail; go_meet; case rel => exact ⟨rfl, HT⟩)
      case rest =>
      clear HT
      obtain ⟨rfl, HT⟩ := hcut
      clear HC
      go_wp2_with fail
      refine (zsel_any _ lo mo _ _ _ _ sl (ns.take d) rfl (by simp; omega) HT.out.s (by omega) (HT.out.n.take d) (by simp; omega)).mono ?_
      rintro e w9 ⟨⟨d1, rfl, hb⟩, hw⟩
      replace HT := hid (HT.out.step hw)
      have Hd1 := hid hb
      clear hb hw

      go_upto_region 23 with fail
      go_cut [17] from 20 (fun t wx => SaysV sl (ns.drop d) t ∧ Hid (St w1 wx lo mo sl ns))
      case first =>
        by_cases hde : mcap = d
        · subst hde
          go_wp2_with fail
          refine (zsel_any _ lo _ _ _ _ _ sl (ns.drop mcap) rfl (by simp; omega) HT.out.s (by omega) (strs_none (by omega)) (by simp; omega)).mono ?_
          rintro e w8 ⟨⟨d2, rfl, hb⟩, hw⟩
          replace HT := hid (HT.out.step hw)
          have Hd2 := hid hb
          clear hb hw
          go_wp2_with fail
          go_meet
          case rel => exact ⟨⟨_, rfl, Hd2.out⟩, HT⟩
        · go_wp2_with fail
          refine (zsel_any _ lo _ _ _ _ _ sl (ns.drop d) rfl (by simp) HT.out.s (by omega) (HT.out.n.drop d) (by simp; omega)).mono ?_
          rintro e w8 ⟨⟨d2, rfl, hb⟩, hw⟩
          replace HT := hid (HT.out.step hw)
          have Hd2 := hid hb
          clear hb hw
          go_wp2_with fail
          go_meet
          case rel => exact ⟨⟨_, rfl, Hd2.out⟩, HT⟩
      case rest =>
      clear HT
      obtain ⟨⟨d2, rfl, hd2⟩, HT⟩ := hcut
      have HC := hid (bool_or_of_iff Hb.out Hd1.out hd2 (sel_names sl ns d))
      clear hd2 Hd1
      go_upto_region 24 with fail
      go_cut [119] from 20 (fun t wx => t = .bool false ∧ Hid (St w1 wx lo mo sl ns))
      case first =>
        cases b <;> cases d1 <;> cases d2 <;> first | exact absurd HC.out (by decide) | (go_wp2_with fail; go_meet; case rel => exact ⟨rfl, HT⟩)
      case rest =>
      clear HT
      obtain ⟨rfl, HT⟩ := hcut
      clear HC Hb
      go_wp2_with fail
      refine (insert_gl _ lo lcap sl star p HT.out.s (by omega) star_small hp).mono ?_
      rintro e w10 ⟨io, icap, gl, rfl, hgl, HG, HGS, HGB⟩
      replace HT := hid (HT.out.step HGB.out)
      clear HGB
      go_wp2_with fail
      refine (zsel_any _ io mo _ _ _ _ gl ns rfl rfl HGS.out (by have := hgl.out; omega) HT.out.n (by omega)).mono ?_
      rintro e w11 ⟨⟨b3, rfl, hb3⟩, hw⟩
      replace HT := hid (HT.out.step hw)
      obtain rfl : b3 = true := hb3.2 (by rw [HG.out]; exact sel_ins (.inl rfl))
      clear hb3 hw HG HGS hgl
      go_upto_if 130 with (fail)
      go_cut [] from 20 (fun wx => Hid (St w1 wx lo mo sl ns))
      case first =>
        by_cases hdl : d < ns.length
        · obtain ⟨bb, off, x, rfl, hbb, hcell, hx, hz⟩ := HT.out.n.at hdl
          have HX := hid (And.intro hx hz)
          clear hx hz
          go_wp2_with fail
          refine (insert_gl _ lo lcap sl x p HT.out.s (by omega) HX.out.2 hp).mono ?_
          rintro e w12 ⟨jo, jcap, hl2, rfl, hhl, HG, HGS, HGB⟩
          replace HT := hid (HT.out.step HGB.out)
          clear HGB hcell hbb
          go_wp2_with fail
          refine (zsel_any _ jo _ _ _ _ _ hl2 ns rfl rfl HGS.out (by have := hhl.out; omega) HT.out.n (by omega)).mono ?_
          rintro e w13 ⟨⟨b4, rfl, hb4⟩, hw⟩
          replace HT := hid (HT.out.step hw)
          obtain rfl : b4 = true := hb4.2 (by rw [HG.out]; exact sel_ins (.inr (List.mem_of_getElem? HX.out.1)))
          clear hb4 hw HG HGS hhl
          go_wp2_with fail
          go_meet
          case rel => exact HT
        · go_wp2_with fail
          go_meet
          case rel => exact HT
      case rest =>
      clear HT
      have HT := hcut
      clear hcut
      go_wp2_with fail
      refine (zsel_any _ lo lo _ _ _ _ sl sl rfl rfl HT.out.s (by omega) HT.out.s (by omega)).mono ?_
      rintro e w14 ⟨⟨b5, rfl, hb5⟩, hw⟩
      replace HT := hid (HT.out.step hw)
      have H5 := hid (hb5.trans (sel_self sl))
      clear hb5 hw
      by_cases h0 : 0 < sl.length
      · obtain rfl : b5 = true := H5.out.2 h0
        have hi0 : decide ((0 : Int) < (sl.length : Int)) = true := decide_eq_true (by omega)
        go_wp2_with fail
        go_ret
        exact ⟨rfl, HT.out.b⟩
      · obtain rfl : b5 = false := by
          cases b5 with
          | false => rfl
          | true => exact absurd (H5.out.1 rfl) h0
        have hi0 : decide ((0 : Int) < (sl.length : Int)) = false := decide_eq_false (by omega)
        go_wp2_with fail
        go_ret
        exact ⟨rfl, HT.out.b⟩

end Go.Proofs.Qxb6617177a
