import Derived.Test.Qxb6617177aZz
namespace Go.Proofs.Qxb6617177a
open Go.RowKit

theorem Try.info9 : (Try.prog.info? 9).map (fun i => (i.zero, i.size, i.bytes)) = some (some (.string ByteArray.empty), 1, 16) := by kernel_rfl

/-- the strings of an owned row -/
theorem strs_of_owns {w : World} {base g n cap : Nat} {xs : List Value} {sl : List ByteArray} (h : w.ownsRow base 9 1 (.slice (some ⟨g, 0, Option.none⟩) n cap) n xs) (hn : n = sl.length) (hx : xs = sl.map Value.string) (hs : ∀ s ∈ sl, s.size ≤ maxLen) :
    Strs w (some ⟨g, 0, Option.none⟩) sl := by
  subst hn hx
  refine ⟨fun j hj => ⟨g, 0, rfl, (h.lt g rfl).2, ?_⟩, hs⟩
  rw [Nat.zero_add, h.cellAt j (by omega)]
  simp [List.getD, hj]

theorem one_new (w : World) (a : Value) (t : TypeId) (k : Nat) (hk : k = w.heap.size) : ∀ j u, [a][j]? = some u → (w.alloc (.cells #[a] t)).cell? ((⟨k, 0, Option.none⟩ : Addr).add j) = some u := by
  subst hk
  intro j u hj
  match j, hj with
  | 0, hj =>
    simp at hj; subst hj
    rw [Addr.add_lit, cell_of_row _ _ _ _ _ _ (heap_alloc_new w _)]
    rfl
theorem one_cell (s : ByteArray) : ∀ u ∈ [Value.string s], u.oneCell' = true := by
  intro u hu; simp at hu; subst hu; rfl

/-- a row of strings that the call has built, from block B on; nothing below B has turned since w0 -/
structure Built (w0 w : World) (B : Nat) (v : Value) (gl : List ByteArray) : Prop where
  own : w.ownsRow B 9 1 v gl.length (gl.map Value.string)
  bel : Below B w0 w
theorem Built.step {w0 w w1 : World} {B : Nat} {v v' : Value} {gl : List ByteArray} {s : ByteArray} (h : Built w0 w B v gl) (hB : B ≤ w.heap.size)
    (ho : w1.ownsRow B 9 1 v' (gl.length + 1) (gl.map Value.string ++ [.string s])) (hg : (w.alloc (.cells #[.string s] 9)).grownBy w1 v.ownBlock) : Built w0 w1 B v' (gl ++ [s]) := by
  refine ⟨by simpa using ho, (h.bel.alloc hB _).grown hg (by simp; omega) (fun j hj => (h.own.lt j hj).1)⟩
theorem Built.strs {w0 w : World} {B : Nat} {v : Value} {gl : List ByteArray} (h : Built w0 w B v gl) (hs : ∀ s ∈ gl, s.size ≤ maxLen) (hne : 0 < gl.length) : ∃ g cap, v = .slice (some ⟨g, 0, Option.none⟩) gl.length cap ∧ Strs w (some ⟨g, 0, Option.none⟩) gl ∧ gl.length ≤ cap ∧ B ≤ g := by
  rcases h.own.2 with ⟨_, h0⟩ | ⟨g, cap, cur, rfl, hg, _, hle, _⟩
  · omega
  · exact ⟨g, cap, rfl, strs_of_owns h.own rfl rfl hs, hle, hg⟩

theorem ins_step {l : List ByteArray} {x s : ByteArray} {p i : Nat} (hp : p ≤ i) (hs : l[i]? = some s) : (l.take p ++ x :: (l.drop p).take (i - p)) ++ [s] = l.take p ++ x :: (l.drop p).take (i + 1 - p) := by
  obtain ⟨hi, e⟩ := List.getElem?_eq_some_iff.1 hs
  rw [show i + 1 - p = (i - p) + 1 by omega, List.take_succ_eq_append_getElem (by simp; omega)]
  simp only [List.append_assoc, List.cons_append, List.getElem_drop, show p + (i - p) = i by omega, e]
theorem take_step {l : List ByteArray} {s : ByteArray} {i : Nat} (hs : l[i]? = some s) : l.take i ++ [s] = l.take (i + 1) := by
  obtain ⟨hi, e⟩ := List.getElem?_eq_some_iff.1 hs
  rw [List.take_succ_eq_append_getElem hi, e]


set_option maxRecDepth 1000000 in
set_option maxHeartbeats 1000000 in
/-- insertAt -/
theorem insert_any (w3 : World) (ho : Option Addr) (hcp : Nat) (sl : List ByteArray) (x : ByteArray) (p : Nat) (hS : Strs w3 ho sl) (hl : sl.length ≤ 131072) (hx : x.size ≤ maxLen) (hp : p ≤ sl.length) :
    Calls Try.prog 8 #[.slice ho sl.length hcp, .int .i64 p, .string x] w3 fun e w' => ∃ ao cap, e = .returned (.slice ao (sl.take p ++ x :: sl.drop p).length cap) ∧ Strs w' ao (sl.take p ++ x :: sl.drop p) ∧ Below w3.heap.size w3 w' := by
  have HS3 := hid hS
  have HXS := hid hx
  clear hS hx
  obtain ⟨i0, hi, hz0, hz1, hz2⟩ := info_parts Try.info9
  have HI := hid (And.intro hi (And.intro hz0 (And.intro hz1 hz2)))
  clear hi hz0 hz1 hz2
  go_enter Try.func8, Try.ntmps8
  go_wp2_with (at_make; (refine wpList_make_own _ rfl _ _ 22 rfl w3.heap.size 9 i0 (.string ByteArray.empty) 1 Try.underlying22 HI.out.1 HI.out.2.1 HI.out.2.2.1 _ _ _ (sl.length + 1) rfl rfl (by omega) (by rw [HI.out.2.2.2]; omega) (by unfold maxLen; omega) (Nat.le_refl _) ?_))
  intro w4 hown hgrow
  have HG0 : Hid (Built w3 w4 w3.heap.size (.slice (some ⟨w3.heap.size, 0, Option.none⟩) 0 (sl.length + 1)) (sl.take 0)) := ⟨by simpa using hown, (Below.refl _ _).grown hgrow (Nat.le_refl _) (by simp)⟩
  clear hown hgrow
  go_wp2_with fail
  go_loopw [7, 8] (fun v iv wr => ∃ i : Nat, i ≤ p ∧ iv = .int .i64 i ∧ Hid (Built w3 wr w3.heap.size v (sl.take i))) (fun _ i _ => p - (intOf i).toNat)
  case atStart => exact ⟨0, Nat.zero_le _, rfl, HG0⟩
  case round =>
    clear HG0
    obtain ⟨i, hip, rfl, HG⟩ := hrel
    by_cases hlt : i < p
    · obtain ⟨b, off, s, rfl, hb, hc, hs, hz⟩ := HS3.out.at (j := i) (by omega)
      have d1 : wr.cell? ⟨b, off + i, Option.none⟩ = some (.string s) := (HG.out.bel.cell (by exact hb)).trans hc
      have hzz : w3.heap.size ≤ wr.heap.size := HG.out.bel.size
      have hil : (sl.take i).length ≤ 131072 := by simp; omega
      have HT := hid (take_step hs)
      clear hc hs
      generalize sl.take i = gl at HG hil HT
      go_wp2_with (at_builtin; (refine wpList_append_own _ rfl (.tmp 19) (.tmp 24) 22 rfl w3.heap.size 9 i0 (.string ByteArray.empty) 1 16 Try.underlying22 HI.out.1 HI.out.2.1 HI.out.2.2.1 HI.out.2.2.2 rfl (by decide) _ gl.length (gl.map Value.string) rfl (HG.out.own.alloc _) ⟨wr.heap.size, 0, Option.none⟩ 1 1 [.string s] rfl rfl (one_new _ _ _ _ (by simp)) (one_cell s) (by unfold maxLen; omega) (by omega) (by simp; omega) ?_))
      intro v' w5 hown hgrow _
      have HG' := hid (HG.out.step hzz hown hgrow)
      rw [HT.out] at HG'
      clear hown hgrow HG d1
      go_wp2_with fail
      go_roundw
      case rel => exact ⟨i + 1, by omega, by go_num, HG'⟩
      case measure => simp [intOf]; omega
    · have hip' : i = p := by omega
      subst hip'
      have hil : (sl.take i).length ≤ 131072 := by simp; omega
      have hzz : w3.heap.size ≤ wr.heap.size := HG.out.bel.size
      generalize hgl : sl.take i = gl at HG hil
      have HGL := hid hgl
      clear hgl
      go_wp2_with (at_builtin; (refine wpList_append_own _ rfl (.tmp 26) (.tmp 28) 22 rfl w3.heap.size 9 i0 (.string ByteArray.empty) 1 16 Try.underlying22 HI.out.1 HI.out.2.1 HI.out.2.2.1 HI.out.2.2.2 rfl (by decide) _ gl.length (gl.map Value.string) rfl (HG.out.own.alloc _) ⟨wr.heap.size, 0, Option.none⟩ 1 1 [.string x] rfl rfl (one_new _ _ _ _ (by simp)) (one_cell x) (by unfold maxLen; omega) (by omega) (by simp; omega) ?_))
      intro v' w5 hown hgrow _
      have HG' := hid (HG.out.step hzz hown hgrow)
      clear hown hgrow HG hil hzz
      have e0 : gl ++ [x] = sl.take i ++ x :: (sl.drop i).take (i - i) := by rw [HGL.out]; simp
      rw [e0] at HG'
      clear e0 HGL gl
      go_wp2_with fail
      go_loopw [7, 9] (fun v qv wr => ∃ q : Nat, i ≤ q ∧ q ≤ sl.length ∧ qv = .int .i64 q ∧ Hid (Built w3 wr w3.heap.size v (sl.take i ++ x :: (sl.drop i).take (q - i)))) (fun _ q _ => sl.length - (intOf q).toNat)
      case atStart => exact ⟨i, Nat.le_refl _, hp, rfl, HG'⟩
      case round =>
        clear HG'
        obtain ⟨q, hiq, hql, rfl, HG⟩ := hrel
        by_cases hlt2 : q < sl.length
        · obtain ⟨b, off, s, rfl, hb, hc, hs, hz⟩ := HS3.out.at (j := q) hlt2
          have d1 : wr.cell? ⟨b, off + q, Option.none⟩ = some (.string s) := (HG.out.bel.cell (by exact hb)).trans hc
          have hzz : w3.heap.size ≤ wr.heap.size := HG.out.bel.size
          have hil : (sl.take i ++ x :: (sl.drop i).take (q - i)).length ≤ 131073 := by simp; omega
          have HT := hid (ins_step (x := x) hiq hs)
          clear hc hs
          generalize sl.take i ++ x :: (sl.drop i).take (q - i) = gl at HG hil HT
          go_wp2_with (at_builtin; (refine wpList_append_own _ rfl (.tmp 37) (.tmp 42) 22 rfl w3.heap.size 9 i0 (.string ByteArray.empty) 1 16 Try.underlying22 HI.out.1 HI.out.2.1 HI.out.2.2.1 HI.out.2.2.2 rfl (by decide) _ gl.length (gl.map Value.string) rfl (HG.out.own.alloc _) ⟨wr.heap.size, 0, Option.none⟩ 1 1 [.string s] rfl rfl (one_new _ _ _ _ (by simp)) (one_cell s) (by unfold maxLen; omega) (by omega) (by simp; omega) ?_))
          intro v' w5 hown hgrow _
          have HG' := hid (HG.out.step hzz hown hgrow)
          rw [HT.out] at HG'
          clear hown hgrow HG d1
          go_wp2_with fail
          go_roundw
          case rel => exact ⟨q + 1, by omega, by omega, by go_num, HG'⟩
          case measure => simp [intOf]; omega
        · have hq : q = sl.length := by omega
          subst hq
          rw [List.take_of_length_le (show (sl.drop i).length ≤ sl.length - i by simp)] at HG
          have hgs : ∀ s ∈ sl.take i ++ x :: sl.drop i, s.size ≤ maxLen := by
            intro s hs
            simp only [List.mem_append, List.mem_cons] at hs
            rcases hs with hs | hs | hs
            · exact HS3.out.2 s (List.mem_of_mem_take hs)
            · subst hs; exact HXS.out
            · exact HS3.out.2 s (List.mem_of_mem_drop hs)
          obtain ⟨g, gcap, rfl, hG6, hgc, _⟩ := HG.out.strs hgs (by simp; omega)
          have HG6 := hid hG6
          have HB6 := hid HG.out.bel
          clear hG6 hgs HG hgc
          generalize hgg : sl.take i ++ x :: sl.drop i = gl at *
          have HGG := hid hgg
          clear hgg
          go_wp2_with fail
          go_ret
          obtain rfl := HGG.out
          exact ⟨_, _, rfl, HG6.out, HB6.out⟩
end Go.Proofs.Qxb6617177a
