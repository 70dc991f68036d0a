/-
  FROM THE SHELL's VIEW OF AN ARGUMENT TO 'In'.
-/
import Derived.Test.Qxb6603725aBase
namespace Go.Proofs.Qxb6603725a
open Go.RowKit

theorem in_of {w : World} {a : Option Addr} {len cap : Nat} {zs : List Int}
    (h : (a = none ∧ len = 0 ∧ cap = 0 ∧ zs = []) ∨
      ∃ x, a = some x ∧ len ≤ cap ∧ cap ≤ maxLen ∧ zs.length = cap ∧ (∀ i, i < zs.length → w.cell? (x.add i) = some (.int .u8 (zs.getD i 0))) ∧ ∀ n ∈ zs, (Lit.int .u8 n).wf = true) :
    In w (.slice a len cap) (zs.take len) ∧ Byt (zs.take len) := by
  rcases h with ⟨rfl, rfl, rfl, rfl⟩ | ⟨x, rfl, h1, h2, h3, h4, h5⟩
  · exact ⟨.inl ⟨rfl, rfl⟩, fun n hn => by cases hn⟩
  · have hl : (zs.take len).length = len := by rw [List.length_take]; omega
    refine ⟨.inr ⟨x, cap, by rw [hl], fun i hi => ?_⟩, fun n hn => bounds_u8 (h5 n (List.mem_of_mem_take hn))⟩
    rw [h4 i (by omega)]
    congr 2
    simp only [List.getD_eq_getElem?_getD, List.getElem?_take]
    rw [if_pos (by omega)]
end Go.Proofs.Qxb6603725a
