import Derived.Test.Qxb6616784aBuild
namespace Go.Proofs.Qxb6616784a
open Go.RowKit

theorem Fac.fr {S : Nat → Prop} {w w' : World} {base fb : Nat} {sv : Value} {ms : List Nat} {fl : List Bool} (h : Fac w base fb sv ms fl) (f : Fr S w w') (h1 : ¬ S fb) (h2 : ∀ k, sv.ownBlock = some k → ¬ S k) (h3 : ∀ m ∈ ms, ¬ S m) : Fac w' base fb sv ms fl := by
  refine ⟨?_, owns_fr f h.own h2, h.len, h.nodup, fun i m him => ?_, h.fbase⟩
  · obtain ⟨cs, hb, r⟩ := h.blk
    exact ⟨cs, blk_fr f hb h1, r⟩
  · obtain ⟨q1, q2⟩ := h.mem i m him
    exact ⟨q1, q2.fr f (h3 m (List.mem_of_getElem? him))⟩
theorem Fac.below {w w' : World} {base fb : Nat} {sv : Value} {ms : List Nat} {fl : List Bool} (h : Fac w base fb sv ms fl) (f : Below w.heap.size w w') : Fac w' base fb sv ms fl :=
  h.fr (fr_of_below f (fun _ => False)) (fun h => h) (fun _ _ h => h) (fun _ _ h => h)
theorem Marks.below {w w' : World} {mo : Option Addr} {ml : List Bool} (h : Marks w mo ml) (f : Below w.heap.size w w') : Marks w' mo ml := by
  intro j hj
  obtain ⟨b, off, h1, h2, h3⟩ := h j hj
  exact ⟨b, off, h1, Nat.lt_of_lt_of_le h2 f.size, (f.cell (by exact h2)).trans h3⟩
theorem owns_below {w w' : World} {b : Nat} {e : TypeId} {size : Nat} {v : Value} {n : Nat} {xs : List Value} (h : w.ownsRow b e size v n xs) (f : Below w.heap.size w w') : w'.ownsRow b e size v n xs :=
  owns_fr (fr_of_below f (fun _ => False)) h (fun _ _ h => h)

theorem runs_app : ∀ (ms : List Nat) (fl : List Bool) (ms' : List Nat) (fl' : List Bool), ms.length = fl.length → runs (ms ++ ms') (fl ++ fl') = runs ms fl ++ runs ms' fl'
  | [], [], _, _, _ => by simp [runs]
  | [], _ :: _, _, _, h => by simp at h
  | _ :: _, [], _, _, h => by simp at h
  | a :: ms, b :: fl, ms', fl', h => by
    have ih := runs_app ms fl ms' fl' (by simpa using h)
    simp only [List.cons_append, runs, ih]
    cases b <;> simp
theorem set_last (l : List Bool) : (l ++ [false] ++ [false]).set (l.length + 1) true = l ++ [false] ++ [true] := by
  rw [List.set_append_right _ _ (by simp)]
  have : l.length + 1 - (l ++ [false]).length = 0 := by simp
  rw [this]; rfl
theorem runs_third (ms : List Nat) (ml : List Bool) (m : Nat) (h : ms.length = ml.length) : runs (ms ++ [m]) (ml ++ [false]) = runs ms ml := by
  rw [runs_app _ _ _ _ h]; simp [runs]
theorem runs_fourth (ms : List Nat) (ml : List Bool) (m m2 : Nat) (h : ms.length = ml.length) : runs (ms ++ [m] ++ [m2]) (ml ++ [false] ++ [true]) = runs ms ml ++ [m2] := by
  rw [runs_app _ _ _ _ (by simp [h]), runs_third _ _ _ h]; simp [runs]
theorem own_not_mem {w : World} {b : Nat} {v : Value} {n k : Nat} {xs : List Value} {r : Bool} (h : w.ownsRow b 29 1 v n xs) (hk : v.ownBlock = some k) (hm : MemB w k r) : False := by
  obtain ⟨cs, c, h1, _⟩ := hm
  rcases h.2 with ⟨rfl, _⟩ | ⟨g, cap, cur, rfl, _, hh, _⟩
  · simp [Value.ownBlock] at hk
  · simp [Value.ownBlock] at hk
    subst hk
    rw [hh] at h1
    simp at h1
end Go.Proofs.Qxb6616784a
