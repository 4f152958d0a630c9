import Derived.WalkKit
namespace Go.Proofs.Qxb6617177a
open Go.RowKit

/-! Plain laws on worlds, with no program in sight. -/

theorem owns_base {w : World} {b b' : Nat} {e : TypeId} {size : Nat} {v : Value} {n : Nat} {xs : List Value} (h : w.ownsRow b e size v n xs) (hb : b' ≤ b) : w.ownsRow b' e size v n xs := by
  obtain ⟨h1, h2⟩ := h
  refine ⟨h1, ?_⟩
  rcases h2 with h2 | ⟨g, cap, cur, hv, hg, r⟩
  · exact Or.inl h2
  · exact Or.inr ⟨g, cap, cur, hv, by omega, r⟩

theorem grown_of_none {w w' : World} {row : Option Nat} (h : w.grownBy w' Option.none) : w.grownBy w' row :=
  ⟨h.os, h.tape, h.output, h.size, fun k hk _ => h.block k hk (by simp)⟩

/-- append onto a row of the call's own, and it is told whether the row moved: to a new block, or not at all. -/
theorem wpList_append_sep {P : Program} (w : World) {ops : Array Oper} {rest : List Oper} {o : Oper} {a : Act} {Q : Exit → Act → World → Prop} (hgd : o.guard = Option.none) (s x : Operand) (t : TypeId)
    (ho : o.op = .call { callee := .builtin .append, args := #[s, x], argTypes := #[t, t] })
    (base : Nat) (e : TypeId) (i : TypeInfo) (z : Value) (size bytes : Nat) (ht : P.underlying t = some (.slice e)) (hi : P.info? e = some i) (hz : i.zero = some z)
    (hsize : i.size = size) (hby : i.bytes = bytes) (hzs : z.cells.size = size) (hsz : 0 < size)
    (v : Value) (n : Nat) (xs : List Value) (hs : a.eval s = v) (hown : w.ownsRow base e size v n xs)
    (ad : Addr) (m c : Nat) (news : List Value) (hx : a.eval x = .slice (some ad) m c) (hl : news.length = m * size) (hnews : ∀ j u, news[j]? = some u → w.cell? (ad.add j) = some u) (h1 : ∀ u ∈ news, u.oneCell' = true)
    (hm : 0 < m) (h63 : n + m ≤ maxLen) (hbytes : (n + m) * bytes ≤ 140737488355328) (hbase : base ≤ w.heap.size)
    (h : ∀ v' w', w'.ownsRow base e size v' (n + m) (xs ++ news) → w.grownBy w' v.ownBlock → (v'.ownBlock = v.ownBlock ∨ ∀ k, v'.ownBlock = some k → w.heap.size ≤ k) → wpList P ops Q rest (a.put o.dst v') w') :
    wpList P ops Q (o :: rest) a w := by
  have hw := hown
  obtain ⟨hlen, hc⟩ := hown
  rcases hc with ⟨rfl, rfl⟩ | ⟨g, cap, cur, rfl, hg, hh, hnc, hcm, hcs, htk⟩
  · have hx0 : xs = [] := List.eq_nil_of_length_eq_zero (by simpa using hlen)
    subst hx0
    exact wpList_append_grows w hgd s x t ho e i z size bytes ht hi hz hsize hby hzs hsz Option.none 0 0 [] hs (fun _ => ⟨rfl, rfl⟩) (by simp) (fun b hb => by cases hb) ad m c news hx hl hnews h1 (by omega) h63 hbytes
      fun v' w' ho' hg' => h v' w' (owns_base ho' hbase) (grown_of_none hg') (Or.inr fun k hk => (ho'.lt k hk).1)
  · by_cases hr : n + m ≤ cap
    · exact wpList_append_fits w hgd s x t ho base e i size ht hi hsize g n cap xs hs hw ad m c news hx hl hnews h1 hr fun w' ho' hg' => h _ w' ho' hg' (Or.inl rfl)
    · exact wpList_append_grows w hgd s x t ho e i z size bytes ht hi hz hsize hby hzs hsz (some ⟨g, 0, Option.none⟩) n cap xs hs (fun hb => by cases hb) hlen (fun b hb j u hj => by cases hb; exact hw.cells (g := g) rfl j u hj) ad m c news hx hl hnews h1 (by omega) h63 hbytes
        fun v' w' ho' hg' => h v' w' (owns_base ho' hbase) (grown_of_none hg') (Or.inr fun k hk => (ho'.lt k hk).1)

/-- From w to w' nothing old has turned but the blocks of S. -/
structure Fr (S : Nat → Prop) (w w' : World) : Prop where
  os : w'.os = w.os
  tape : w'.tape = w.tape
  output : w'.output = w.output
  size : w.heap.size ≤ w'.heap.size
  block : ∀ k, k < w.heap.size → ¬ S k → w'.heap[k]? = w.heap[k]?

theorem Fr.refl (S : Nat → Prop) (w : World) : Fr S w w := ⟨rfl, rfl, rfl, Nat.le_refl _, fun _ _ _ => rfl⟩
theorem Fr.trans {S T : Nat → Prop} {a b c : World} (h : Fr S a b) (k : Fr T b c) (hT : ∀ i, i < a.heap.size → T i → S i) : Fr S a c :=
  ⟨k.os.trans h.os, k.tape.trans h.tape, k.output.trans h.output, Nat.le_trans h.size k.size,
    fun i hi hn => (k.block i (Nat.lt_of_lt_of_le hi h.size) (fun ht => hn (hT i hi ht))).trans (h.block i hi hn)⟩
theorem Fr.alloc (S : Nat → Prop) (w : World) (o : Obj) : Fr S w (w.alloc o) := ⟨rfl, rfl, rfl, by simp, fun k hk _ => Below.heap_alloc _ _ _ hk⟩
theorem Fr.drew (S : Nat → Prop) (w : World) : Fr S w w.drew := ⟨rfl, rfl, rfl, Nat.le_refl _, fun _ _ _ => rfl⟩
theorem Fr.setCell {S : Nat → Prop} (w : World) (a : Addr) (v : Value) (h : S a.block) : Fr S w (w.setCell a v) :=
  ⟨rfl, rfl, rfl, by simp, fun _ _ hn => Below.heap_setCell _ _ _ _ (fun e => hn (e ▸ h))⟩
theorem Fr.grown {S : Nat → Prop} {w w' : World} {row : Option Nat} (h : w.grownBy w' row) (hr : ∀ k, row = some k → S k) : Fr S w w' :=
  ⟨h.os, h.tape, h.output, h.size, fun k hk hn => h.block k hk (fun e => hn (hr k e.symm))⟩
theorem Fr.mono {S T : Nat → Prop} {w w' : World} (h : Fr S w w') (hT : ∀ i, i < w.heap.size → S i → T i) : Fr T w w' :=
  ⟨h.os, h.tape, h.output, h.size, fun k hk hn => h.block k hk (fun hs => hn (hT k hk hs))⟩
theorem Fr.below {S : Nat → Prop} {w w' : World} (h : Fr S w w') {B : Nat} (hB : B ≤ w.heap.size) (hS : ∀ k, k < B → ¬ S k) : Below B w w' :=
  ⟨h.os, h.tape, h.output, h.size, fun k hk => h.block k (by omega) (hS k hk)⟩
theorem fr_of_below {w w' : World} (h : Below w.heap.size w w') (S : Nat → Prop) : Fr S w w' := ⟨h.os, h.tape, h.output, h.size, fun k hk _ => h.block k hk⟩

theorem owns_fr {S : Nat → Prop} {w w' : World} (f : Fr S w w') {b : Nat} {e : TypeId} {size : Nat} {v : Value} {n : Nat} {xs : List Value} (h : w.ownsRow b e size v n xs) (hS : ∀ k, v.ownBlock = some k → ¬ S k) : w'.ownsRow b e size v n xs := by
  have hlt := h.lt
  obtain ⟨h1, h2⟩ := h
  refine ⟨h1, ?_⟩
  rcases h2 with h2 | ⟨g, cap, cur, hv, hg, hh, r⟩
  · exact Or.inl h2
  · subst hv
    exact Or.inr ⟨g, cap, cur, rfl, hg, by rw [f.block g (hlt g rfl).2 (hS g rfl)]; exact hh, r⟩

theorem blk_fr {S : Nat → Prop} {w w' : World} (f : Fr S w w') {k : Nat} {o : Obj} (h : w.heap[k]? = some o) (hS : ¬ S k) : w'.heap[k]? = some o := by
  rw [f.block k (lt_of_block h) hS]; exact h

theorem owns_shape {w : World} {b : Nat} {e : TypeId} {size : Nat} {v : Value} {n : Nat} {xs : List Value} (h : w.ownsRow b e size v n xs) (hn : 0 < n) : ∃ g cap, v = .slice (some ⟨g, 0, Option.none⟩) n cap := by
  rcases h.2 with ⟨_, h0⟩ | ⟨g, cap, _, hv, _⟩
  · omega
  · exact ⟨g, cap, hv⟩
theorem owns_slice {w : World} {b : Nat} {e : TypeId} {size : Nat} {v : Value} {n : Nat} {xs : List Value} (h : w.ownsRow b e size v n xs) : ∃ ao cap, v = .slice ao n cap := by
  rcases h.2 with ⟨h1, h0⟩ | ⟨g, cap, _, hv, _⟩
  · exact ⟨Option.none, 0, by rw [h1, h0]⟩
  · exact ⟨_, cap, hv⟩

/-- two stores to one cell, the second of what was there: the block reads as it did. -/
theorem relock {w : World} {k o : Nat} {cs : Array Value} {t : TypeId} {v u : Value} (h : w.heap[k]? = some (.cells cs t (0, 0))) (hv : cs[o]? = some v) :
    ((w.setCell ⟨k, o, Option.none⟩ u).setCell ⟨k, o, Option.none⟩ v).heap[k]? = w.heap[k]? := by
  have h1 := heap_setCell_same w k o cs t u h
  have h2 := heap_setCell_same _ k o _ t v h1
  rw [h2, h]
  congr 2
  apply Array.ext_getElem?
  intro i
  rw [Array.getElem?_setIfInBounds, Array.getElem?_setIfInBounds]
  by_cases e : o = i
  · subst e
    rw [if_pos rfl]
    obtain ⟨hlt, _⟩ := Array.getElem?_eq_some_iff.1 hv
    rw [if_pos (by simpa using hlt), hv]
  · rw [if_neg e, if_neg e]
end Go.Proofs.Qxb6617177a
