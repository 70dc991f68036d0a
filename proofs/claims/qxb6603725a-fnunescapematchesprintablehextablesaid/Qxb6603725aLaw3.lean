/-
  THE LAW's WALK: FnUnescapeMatchesPrintableHexTable (3).
-/
import Derived.Test.Qxb6603725aWalkU2
namespace Go.Proofs.Qxb6603725a
open Go.RowKit

theorem zz8_t (a : Option Addr) (n c : Nat) (w : World) (h : n ≤ 1048576) : Calls Try.prog 8 #[.slice a n c] w fun e w' => e = .returned (.bool true) ∧ w = w' := by
  go_enter Try.func8, Try.ntmps8
  go_wp2
  go_ret
  exact ⟨rfl, rfl⟩
theorem zz8_f (a : Option Addr) (n c : Nat) (w : World) (h : ¬ n ≤ 1048576) : Calls Try.prog 8 #[.slice a n c] w fun e w' => e = .returned (.bool false) ∧ w = w' := by
  go_enter Try.func8, Try.ntmps8
  go_wp2
  go_ret
  exact ⟨rfl, rfl⟩

theorem law3_far (a : Option Addr) (n c : Nat) (w : World) (h : ¬ n ≤ 1048576) : Calls Try.prog 3 #[.slice a n c] w fun e w' => e = .returned (.bool true) ∧ w = w' := by
  go_enter Try.func3, Try.ntmps3
  go_wp2_with (go_at_call 8; refine (zz8_f _ _ _ _ h).mono ?_; rintro e w' ⟨rfl, rfl⟩)
  go_ret
  exact ⟨rfl, rfl⟩

theorem law3_near (a : Option Addr) (c : Nat) (l : List Int) (w : World) (i0 : In w (.slice a l.length c) l) (hb : Byt l) (h : l.length ≤ 1048576) :
    Calls Try.prog 3 #[.slice a l.length c] w fun e w' => e = .returned (.bool true) ∧ Below w.heap.size w w' := by
  go_enter Try.func3, Try.ntmps3
  go_wp2_with (go_at_call 8; refine (zz8_t _ _ _ _ h).mono ?_; rintro e w' ⟨rfl, rfl⟩)
  refine (clone_any _ l _ i0 (by omega)).mono ?_
  rintro e wA ⟨vA, rfl, oA, bA, kA⟩
  go_wp2_with fail
  refine (zzunescape_any _ l _ oA.rd hb (by omega)).mono ?_
  rintro e w1 ⟨rfl, rfl⟩
  go_wp2_with fail
  refine (model_any _ l _ oA.rd hb (by omega)).mono ?_
  rintro e w1 ⟨rfl, rfl⟩
  generalize (unesc l).1 = x
  generalize (unesc l).2 = y
  have hx : (x == x) = true := by simp
  have hy : (y == y) = true := by simp
  go_wp2
  go_ret
  exact ⟨rfl, kA.below (Nat.le_refl _) (fun _ _ h => h)⟩

theorem law3 (v : Value) (l : List Int) (w : World) (i0 : In w v l) (hb : Byt l) : Calls Try.prog 3 #[v] w fun e w' => e = .returned (.bool true) ∧ Below w.heap.size w w' := by
  obtain ⟨a, c, rfl⟩ := i0.form
  by_cases h : l.length ≤ 1048576
  · exact law3_near a c l w i0 hb h
  · refine (law3_far a _ c w h).mono ?_
    rintro e w' ⟨rfl, rfl⟩
    exact ⟨rfl, Below.refl _ _⟩
end Go.Proofs.Qxb6603725a
