import Derived.Test.Qxb6616784aLeaf
namespace Go.Proofs.Qxb6616784a
open Go.RowKit

theorem Try.info29 : (Try.prog.info? 29).map (fun i => (i.zero, i.size, i.bytes)) = some (some (.pointer Option.none), 1, 8) := by kernel_rfl

theorem Fac.sep {w : World} {base fb : Nat} {sv : Value} {ms : List Nat} {fl : List Bool} (h : Fac w base fb sv ms fl) :
    sv.ownBlock ≠ some fb ∧ (∀ m ∈ ms, m ≠ fb ∧ sv.ownBlock ≠ some m) ∧ (∀ k, sv.ownBlock = some k → base ≤ k ∧ k < w.heap.size) ∧ (∀ m ∈ ms, m < w.heap.size) ∧ fb < w.heap.size := by
  obtain ⟨cs, hb, _, _, _⟩ := h.blk
  have key : ∀ k, sv.ownBlock = some k → ∃ cur, w.heap[k]? = some (.cells cur 29 (0, 0)) := by
    intro k hk
    rcases h.own.2 with ⟨rfl, _⟩ | ⟨g, cap, cur, rfl, _, hh, _⟩
    · simp [Value.ownBlock] at hk
    · simp [Value.ownBlock] at hk; subst hk; exact ⟨cur, hh⟩
  have mk : ∀ m ∈ ms, ∃ c, w.heap[m]? = some (.cells c 66 (0, 0)) := by
    intro m hm
    obtain ⟨i, hi, rfl⟩ := List.getElem_of_mem hm
    obtain ⟨_, c, _, hc, _⟩ := h.mem i _ (List.getElem?_eq_getElem hi)
    exact ⟨c, hc⟩
  refine ⟨fun e => ?_, fun m hm => ⟨fun e => ?_, fun e => ?_⟩, h.own.lt, fun m hm => ?_, lt_of_block hb⟩
  · obtain ⟨cur, hc⟩ := key fb e; rw [hb] at hc; simp at hc
  · subst e; obtain ⟨c, hc⟩ := mk m hm; rw [hb] at hc; simp at hc
  · obtain ⟨c, hc⟩ := mk m hm; obtain ⟨cur, hk⟩ := key m e; rw [hc] at hk; simp at hk
  · obtain ⟨c, hc⟩ := mk m hm; exact lt_of_block hc

theorem one_new (w : World) (a : Value) (t : TypeId) (k : Nat) (hk : k = w.heap.size) : ∀ j u, [a][j]? = some u → (w.alloc (.cells #[a] t)).cell? ((⟨k, 0, Option.none⟩ : Addr).add j) = some u := by
  subst hk
  intro j u hj
  match j, hj with
  | 0, hj =>
    simp at hj; subst hj
    rw [Addr.add_lit, cell_of_row _ _ _ _ _ _ (heap_alloc_new w _)]
    rfl

theorem MemB.fr {S : Nat → Prop} {w w' : World} (f : Fr S w w') {m : Nat} {r : Bool} (h : MemB w m r) (hS : ¬ S m) : MemB w' m r := by
  obtain ⟨cs, c, h1, h2⟩ := h
  exact ⟨cs, c, blk_fr f h1 hS, h2⟩

theorem getD_snoc_lt (l : List Bool) (x : Bool) (i : Nat) (h : i < l.length) : (l ++ [x]).getD i false = l.getD i false := by
  simp [List.getD, List.getElem?_append_left h]
theorem getD_snoc_eq (l : List Bool) (x : Bool) (i : Nat) (h : i = l.length) : (l ++ [x]).getD i false = x := by
  subst h; simp [List.getD]

theorem add_fac (w w1 : World) (base fb : Nat) (sv : Value) (ms : List Nat) (fl : List Bool) (hF : Fac w base fb sv ms fl) (mcs : Array Value) (h9 : mcs.size = 9) (h7 : mcs[7]? = some (.chan Option.none)) (o2 : Obj)
    (hg : ((w.alloc (.cells mcs 66)).alloc o2).grownBy w1 sv.ownBlock) (sv' : Value) (hown1 : w1.ownsRow base 29 1 sv' (ms.length + 1) (ms.map ptrTo ++ [ptrTo w.heap.size]))
    (hsep : sv'.ownBlock = sv.ownBlock ∨ ∀ k, sv'.ownBlock = some k → w.heap.size + 1 + 1 ≤ k) :
    ∃ sv'' m, Fac (w1.setCell ⟨fb, 16, Option.none⟩ sv') base fb sv'' (ms ++ [m]) (fl ++ [false]) ∧
      Fr (fun k => k = fb ∨ sv.ownBlock = some k) w (w1.setCell ⟨fb, 16, Option.none⟩ sv') ∧ (sv''.ownBlock = sv.ownBlock ∨ ∀ k, sv''.ownBlock = some k → w.heap.size ≤ k) := by
  obtain ⟨s1, s2, s3, s4, s5⟩ := hF.sep
  obtain ⟨cs, hblk, hsz, hc14, hc16⟩ := hF.blk
  have fr0 : Fr (fun k => k = fb ∨ sv.ownBlock = some k) w ((w.alloc (.cells mcs 66)).alloc o2) := (Fr.alloc _ _ _).trans (Fr.alloc (fun k => k = fb ∨ sv.ownBlock = some k) _ _) (fun _ _ h => h)
  have fr1 : Fr (fun k => k = fb ∨ sv.ownBlock = some k) w w1 := fr0.trans (Fr.grown (S := fun k => k = fb ∨ sv.ownBlock = some k) hg (fun k hk => Or.inr hk)) (fun _ _ h => h)
  have frW : Fr (fun k => k = fb ∨ sv.ownBlock = some k) w (w1.setCell ⟨fb, 16, Option.none⟩ sv') := fr1.trans (Fr.setCell (S := fun k => k = fb ∨ sv.ownBlock = some k) w1 ⟨fb, 16, Option.none⟩ sv' (Or.inl rfl)) (fun _ _ h => h)
  have hb1 : w1.heap[fb]? = some (.cells cs 61 (0, 0)) := by
    rw [hg.block fb (by simp; omega) (fun e => s1 e.symm), Below.heap_alloc _ _ _ (by simp; omega), Below.heap_alloc _ _ _ s5]; exact hblk
  have hsf : sv'.ownBlock ≠ some fb := by
    rcases hsep with h | h
    · rw [h]; exact s1
    · intro e; have := h fb e; omega
  refine ⟨sv', w.heap.size, ⟨⟨_, heap_setCell_same w1 fb 16 cs 61 sv' hb1, by simp [hsz], ?_, ?_⟩, ?_, by simp [hF.len], ?_, ?_, hF.fbase⟩, frW, ?_⟩
  · rw [Array.getElem?_setIfInBounds_ne (by decide)]; exact hc14
  · rw [Array.getElem?_setIfInBounds_self_of_lt (by omega)]
  · have := ownsRow_setCell_other hown1 (a := ⟨fb, 16, Option.none⟩) hsf sv'
    simpa using this
  · rw [List.nodup_append]
    exact ⟨hF.nodup, by simp, fun a ha b hb => by simp at hb; subst hb; have := s4 a ha; omega⟩
  · intro i m him
    have hfb := hF.fbase
    rcases Nat.lt_or_ge i ms.length with hi | hi
    · rw [List.getElem?_append_left hi] at him
      obtain ⟨q1, q2⟩ := hF.mem i m him
      have hm : m ∈ ms := List.mem_of_getElem? him
      rw [getD_snoc_lt _ _ _ (by rw [← hF.len]; exact hi)]
      exact ⟨q1, q2.fr frW (fun h => h.elim (fun e => (s2 m hm).1 e) (fun e => (s2 m hm).2 e))⟩
    · rw [List.getElem?_append_right hi] at him
      obtain ⟨hlt, e⟩ := List.getElem?_eq_some_iff.1 him
      simp at hlt e
      have hi' : i = ms.length := by omega
      subst e
      rw [getD_snoc_eq _ _ _ (by rw [← hF.len]; exact hi')]
      refine ⟨by omega, mcs, Option.none, ?_, h9, h7, rfl⟩
      rw [heap_setCell_other _ _ _ _ (show w.heap.size ≠ fb by omega), hg.block w.heap.size (by simp; omega) (fun e => by have := s3 _ e.symm; omega), Below.heap_alloc _ _ _ (by simp), heap_alloc_new]
  · rcases hsep with h | h
    · exact Or.inl h
    · exact Or.inr fun k hk => by have := h k hk; omega

set_option maxRecDepth 100000 in
set_option maxHeartbeats 400000 in
/-- ZZaddMember. -/
theorem add_any (w : World) (base fb : Nat) (sv : Value) (ms : List Nat) (fl : List Bool) (hF : Fac w base fb sv ms fl) (hl : ms.length ≤ 1000000) :
    Calls Try.prog 8 #[ptrTo fb] w fun e w' => e = .returned (.tuple #[]) ∧ ∃ sv' m, Fac w' base fb sv' (ms ++ [m]) (fl ++ [false]) ∧
      Fr (fun k => k = fb ∨ sv.ownBlock = some k) w w' ∧ (sv'.ownBlock = sv.ownBlock ∨ ∀ k, sv'.ownBlock = some k → w.heap.size ≤ k) := by
  obtain ⟨cs, hblk, hsz, hc14, hc16⟩ := hF.blk
  have hcell : w.cell? ⟨fb, 16, Option.none⟩ = some sv := by rw [cell_of_row w fb 16 cs 61 _ hblk]; exact hc16
  have hlt : fb < w.heap.size := lt_of_block hblk
  obtain ⟨i0, hi, hz0, hz1, hz2⟩ := info_parts Try.info29
  have hown := hF.own
  have hbase : base ≤ w.heap.size := by have := hF.fbase; omega
  have HF : Hid (Fac w base fb sv ms fl) := hF
  have HB : Hid (w.heap[fb]? = some (.cells cs 61 (0, 0))) := hblk
  clear hF hblk hc14 hc16
  unfold ptrTo
  go_enter Try.func8, Try.ntmps8
  go_wp2_with (at_builtin; (refine wpList_append_sep _ rfl (.tmp 6) (.tmp 9) 26 rfl base 29 i0 (.pointer Option.none) 1 8 Try.underlying26 hi hz0 hz1 hz2 rfl (by decide) sv ms.length (ms.map ptrTo) rfl ((hown.alloc _).alloc _) ⟨w.heap.size + 1, 0, Option.none⟩ 1 1 [ptrTo w.heap.size] rfl rfl (one_new _ _ _ _ (by simp)) (by intro u hu; simp at hu; subst hu; rfl) (by decide) (by unfold maxLen; omega) (by omega) (by simp; omega) ?_))
  intro v' w1 hown1 hgrow1 hsep
  obtain ⟨g, cap, rfl⟩ := owns_shape hown1 (by omega)
  have hb1 : w1.heap[fb]? = some (.cells cs 61 (0, 0)) := by
    rw [hgrow1.block fb (by simp; omega) (fun e => HF.out.sep.1 e.symm), Below.heap_alloc _ _ _ (by simp; omega), Below.heap_alloc _ _ _ hlt]; exact HB.out
  have hcell1 : w1.cell? ⟨fb, 16, Option.none⟩ = some sv := by
    rw [World.cell?_of_block (w := w) (by rw [hb1, HB.out])]; exact hcell
  have hfz1 : w1.frozen? ⟨fb, 16, Option.none⟩ = false := frozen_of_row _ _ _ _ _ hb1
  have HB1 : Hid (w1.heap[fb]? = some (.cells cs 61 (0, 0))) := hb1
  clear hb1
  go_wp2
  go_end0
  exact ⟨rfl, add_fac w w1 base fb sv ms fl HF.out _ (by rfl) (by rfl) _ hgrow1 _ hown1 hsep⟩
end Go.Proofs.Qxb6616784a
