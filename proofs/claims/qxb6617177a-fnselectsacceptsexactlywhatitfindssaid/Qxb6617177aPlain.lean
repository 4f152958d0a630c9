import Derived.Test.Qxb6617177aCopy
namespace Go.Proofs.Qxb6617177a
open Go.RowKit

theorem sel_cut (sl ns : List ByteArray) (c : Nat) : Sel sl ns ↔ Sel (sl.take c) ns ∨ Sel (sl.drop c) ns := by
  unfold Sel
  constructor
  · rintro ⟨s, hs, hg⟩
    rw [← List.take_append_drop c sl] at hs
    rcases List.mem_append.1 hs with h | h
    · exact .inl ⟨s, h, hg⟩
    · exact .inr ⟨s, h, hg⟩
  · rintro (⟨s, hs, hg⟩ | ⟨s, hs, hg⟩)
    · exact ⟨s, List.mem_of_mem_take hs, hg⟩
    · exact ⟨s, List.mem_of_mem_drop hs, hg⟩
theorem sel_names (sl ns : List ByteArray) (d : Nat) : Sel sl ns ↔ Sel sl (ns.take d) ∨ Sel sl (ns.drop d) := by
  unfold Sel Good
  constructor
  · rintro ⟨s, hs, hg | hg⟩
    · exact .inl ⟨s, hs, .inl hg⟩
    · rw [← List.take_append_drop d ns] at hg
      rcases List.mem_append.1 hg with h | h
      · exact .inl ⟨s, hs, .inr h⟩
      · exact .inr ⟨s, hs, .inr h⟩
  · rintro (⟨s, hs, hg | hg⟩ | ⟨s, hs, hg | hg⟩)
    · exact ⟨s, hs, .inl hg⟩
    · exact ⟨s, hs, .inr (List.mem_of_mem_take hg)⟩
    · exact ⟨s, hs, .inl hg⟩
    · exact ⟨s, hs, .inr (List.mem_of_mem_drop hg)⟩
theorem sel_ins {sl ns : List ByteArray} {p : Nat} {x : ByteArray} (h : Good ns x) : Sel (sl.take p ++ x :: sl.drop p) ns := ⟨x, by simp, h⟩
theorem sel_self (sl : List ByteArray) : Sel sl sl ↔ 0 < sl.length := by
  constructor
  · rintro ⟨s, hs, _⟩; exact List.length_pos_of_mem hs
  · intro h
    cases sl with
    | nil => simp at h
    | cons a t => exact ⟨a, by simp, .inr (by simp)⟩
theorem bool_of_iff {a b : Bool} {p q : Prop} (ha : a = true ↔ p) (hb : b = true ↔ q) (h : p ↔ q) : a = b := by
  cases a <;> cases b <;> simp_all
theorem bool_or_of_iff {a b c : Bool} {p q r : Prop} (ha : a = true ↔ p) (hb : b = true ↔ q) (hc : c = true ↔ r) (h : p ↔ q ∨ r) : a = (b || c) := by
  cases a <;> cases b <;> cases c <;> simp_all

/-- two rows of strings in hand; below w1 nothing has turned -/
structure St (w1 w : World) (lo mo : Option Addr) (sl ns : List ByteArray) : Prop where
  s : Strs w lo sl
  n : Strs w mo ns
  b : Below w1.heap.size w1 w
theorem St.step {w1 w w' : World} {lo mo : Option Addr} {sl ns : List ByteArray} (h : St w1 w lo mo sl ns) (f : Below w.heap.size w w') : St w1 w' lo mo sl ns :=
  ⟨h.s.below f, h.n.below f, h.b.trans (f.mono h.b.size)⟩

theorem Strs.take {w : World} {lo : Option Addr} {sl : List ByteArray} (h : Strs w lo sl) (c : Nat) : Strs w lo (sl.take c) := by
  refine ⟨fun j hj => ?_, fun s hs => h.2 s (List.mem_of_mem_take hs)⟩
  have hj' : j < c ∧ j < sl.length := by simp at hj; omega
  obtain ⟨b, off, e, hb, hc⟩ := h.1 j hj'.2
  refine ⟨b, off, e, hb, ?_⟩
  rw [hc]
  simp [List.getD, hj'.1]
theorem Strs.drop {w : World} {lo : Option Addr} {sl : List ByteArray} (h : Strs w lo sl) (c : Nat) : Strs w (Option.map (fun x => x.add c) lo) (sl.drop c) := by
  refine ⟨fun j hj => ?_, fun s hs => h.2 s (List.mem_of_mem_drop hs)⟩
  have hj' : c + j < sl.length := by simp at hj; omega
  obtain ⟨b, off, rfl, hb, hc⟩ := h.1 (c + j) hj'
  refine ⟨b, off + c, by simp [Addr.add_lit], hb, ?_⟩
  rw [Nat.add_assoc, hc]
  simp [List.getD]
theorem strs_none {w : World} {lo' : Option Addr} {sl : List ByteArray} {c : Nat} (hc : sl.length ≤ c) : Strs w lo' (sl.drop c) := by
  rw [List.drop_eq_nil_of_le hc]
  exact ⟨fun j hj => absurd hj (by simp), by simp⟩
/-- insertAt, its list under a name -/
theorem insert_gl (w3 : World) (ho : Option Addr) (hcp : Nat) (sl : List ByteArray) (x : ByteArray) (p : Nat) (hS : Strs w3 ho sl) (hl : sl.length ≤ 131072) (hx : x.size ≤ maxLen) (hp : p ≤ sl.length) :
    Calls Try.prog 8 #[.slice ho sl.length hcp, .int .i64 p, .string x] w3 fun e w' => ∃ ao cap gl, e = .returned (.slice ao gl.length cap) ∧ Hid (gl.length = sl.length + 1) ∧ Hid (gl = sl.take p ++ x :: sl.drop p) ∧ Hid (Strs w' ao gl) ∧ Hid (Below w3.heap.size w3 w') := by
  refine (insert_any w3 ho hcp sl x p hS hl hx hp).mono ?_
  rintro e w' ⟨ao, cap, rfl, h1, h2⟩
  exact ⟨ao, cap, _, rfl, (show _ = _ by simp; omega), rfl, h1, h2⟩
theorem star_small : star.size ≤ maxLen := by decide
end Go.Proofs.Qxb6617177a
