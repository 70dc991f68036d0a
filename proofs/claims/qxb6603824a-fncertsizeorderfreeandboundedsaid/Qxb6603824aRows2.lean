/-
  A ROW OF PAIRS OF THE CALL's OWN THAT IS BEING FILLED. No program in sight.
-/
import Derived.Test.Qxb6603824aBase
namespace Go.Proofs.Qxb6603824a
open Go.RowKit

/-- Block g is a row of n pairs; those in D hold a string and a slice of the lengths said. -/
def Row2 (w : World) (g : Nat) (T : TypeId) (n : Nat) (D : Nat → Prop) (il sl : Nat → Nat) : Prop :=
  ∃ cur : Array Value, w.heap[g]? = some (.cells cur T (0, 0)) ∧ cur.size = n * 2 ∧ ∀ i, i < n → D i → ∃ s a d, cur[i * 2]? = some (.string s) ∧ s.size = il i ∧ cur[i * 2 + 1]? = some (.slice a (sl i) d)

section
variable {w : World} {g : Nat} {T : TypeId} {n : Nat} {D : Nat → Prop} {il sl : Nat → Nat}

theorem Row2.cell (h : Row2 w g T n D il sl) {j : Nat} (hj : j < n * 2) : ∃ v, w.cell? ⟨g, j, none⟩ = some v := by
  obtain ⟨cur, h1, h2, _⟩ := h
  rw [cell_of_row w g j cur T (0, 0) h1]
  exact ⟨cur[j]'(by omega), Array.getElem?_eq_getElem _⟩
theorem Row2.free (h : Row2 w g T n D il sl) (j : Nat) : w.frozen? ⟨g, j, none⟩ = false := by
  obtain ⟨cur, h1, _⟩ := h
  exact frozen_of_row w g j cur T h1
theorem Row2.lt (h : Row2 w g T n D il sl) : g < w.heap.size := by
  obtain ⟨cur, h1, _⟩ := h
  exact lt_of_block h1
theorem Row2.kept {S : Nat → Prop} {w' : World} (h : Row2 w g T n D il sl) (hk : Kept S w w') (hS : ¬ S g) : Row2 w' g T n D il sl := by
  obtain ⟨cur, h1, h2⟩ := h
  exact ⟨cur, by rw [hk.block g (lt_of_block h1) hS]; exact h1, h2⟩
theorem Row2.old {w' : World} (h : Row2 w g T n D il sl) (hk : Old w w') : Row2 w' g T n D il sl := h.kept hk (fun h => h)
theorem Row2.made {base : Nat} {xs : List Value} (h : w.ownsRow base T 2 (.slice (some ⟨g, 0, none⟩) n n) n xs) : Row2 w g T n (fun _ => False) il sl := by
  rcases h.2 with ⟨h, _⟩ | ⟨g', cap, cur, h1, _, h3, h4, h5, h6, _⟩
  · cases h
  · cases h1
    exact ⟨cur, h3, h6, fun _ _ h => h.elim⟩
/-- One pair is stored. -/
theorem Row2.set (h : Row2 w g T n D il sl) {k : Nat} (hk : k < n) {s : ByteArray} {a : Option Addr} {m d : Nat} (hs : s.size = il k) (hm : m = sl k) :
    Row2 ((w.setCell ⟨g, k * 2, none⟩ (.string s)).setCell ⟨g, k * 2 + 1, none⟩ (.slice a m d)) g T n (fun i => D i ∨ i = k) il sl := by
  obtain ⟨cur, h1, h2, h3⟩ := h
  refine ⟨(cur.setIfInBounds (k * 2) (.string s)).setIfInBounds (k * 2 + 1) (.slice a m d), heap_setCell_same _ g (k * 2 + 1) _ T _ (heap_setCell_same w g (k * 2) cur T _ h1), by simpa using h2, fun i hi hd => ?_⟩
  by_cases hik : i = k
  · subst hik
    refine ⟨s, a, d, ?_, hs, ?_⟩
    · rw [Array.getElem?_setIfInBounds, if_neg (by omega), Array.getElem?_setIfInBounds, if_pos rfl, if_pos (by omega)]
    · rw [Array.getElem?_setIfInBounds, if_pos rfl, if_pos (by simp; omega), hm]
  · obtain ⟨s', a', d', e1, e2, e3⟩ := h3 i hi (hd.resolve_right hik)
    refine ⟨s', a', d', ?_, e2, ?_⟩
    · rw [Array.getElem?_setIfInBounds, if_neg (by omega), Array.getElem?_setIfInBounds, if_neg (by omega)]; exact e1
    · rw [Array.getElem?_setIfInBounds, if_neg (by omega), Array.getElem?_setIfInBounds, if_neg (by omega)]; exact e3
theorem Row2.mono {D' : Nat → Prop} (h : Row2 w g T n D il sl) (hd : ∀ i, i < n → D' i → D i) : Row2 w g T n D' il sl := by
  obtain ⟨cur, h1, h2, h3⟩ := h
  exact ⟨cur, h1, h2, fun i hi hd' => h3 i hi (hd i hi hd')⟩
theorem Row2.full (h : Row2 w g T n D il sl) (hd : ∀ i, i < n → D i) (c : Nat) : SRd w (.slice (some ⟨g, 0, none⟩) n c) n il sl := by
  have hl := h.lt
  obtain ⟨cur, h1, h2, h3⟩ := h
  refine .inr ⟨g, c, rfl, hl, fun i hi => ?_⟩
  obtain ⟨s, a, d, e1, e2, e3⟩ := h3 i hi (hd i hi)
  exact ⟨s, a, d, by rw [cell_of_row w g _ cur T (0, 0) h1]; exact e1, e2, by rw [cell_of_row w g _ cur T (0, 0) h1]; exact e3⟩
end
end Go.Proofs.Qxb6603824a
