/-
  THE WALKS, I: zzB1IsSplitOf (23): where the parts are the split. PART 0.
-/
import Derived.Test.Qxb6603725aWalkD
namespace Go.Proofs.Qxb6603725a
open Go.RowKit
set_option maxRecDepth 100000
set_option linter.unusedSimpArgs false

theorem rd_cell {w : World} {g o n c k : Nat} {l : List Int} {x : Int} (h : Rd w (.slice (some ⟨g, o, none⟩) n c) l) (hx : l[k]? = some x) : w.cell? ⟨g, o + k, none⟩ = some (.int .u8 x) := by
  obtain ⟨hk, hv⟩ := List.getElem?_eq_some_iff.1 hx
  rcases h with ⟨h, _⟩ | ⟨g', o', c', h, h1, h2, h3, h4⟩
  · cases h
  · cases h
    rw [h4 k hk]
    simp [hx]
theorem rd_len {w : World} {g o n c : Nat} {l : List Int} (h : Rd w (.slice (some ⟨g, o, none⟩) n c) l) : n = l.length ∧ n ≤ c ∧ g < w.heap.size := by
  rcases h with ⟨h, _⟩ | ⟨g', o', c', h, h1, h2, h3, h4⟩
  · cases h
  · cases h; exact ⟨rfl, h1, h3⟩
theorem mid_get (R el : List Int) (ce : Int) : (R ++ [ce] ++ el)[R.length]? = some ce := by simp
theorem own_len {w : World} {v : Value} {l : List Int} (h : Own w v l) (n : Nat) (hn : l.length = n) : ∃ a c, v = .slice a n c := by
  obtain ⟨a, c, rfl⟩ := h.rd.form
  exact ⟨a, c, by rw [hn]⟩
theorem own_move {w W : World} {v : Value} {l : List Int} (h : Rd w v l) (k : Kept (fun _ => False) w W) : Rd W v l := h.kept k (fun _ _ h => h)
end Go.Proofs.Qxb6603725a
