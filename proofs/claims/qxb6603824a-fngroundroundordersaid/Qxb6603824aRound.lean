/-
  (Ground).Round (12), AND THE TWO LAWS' WALKS: FnGroundRoundTrip (4), FnGroundRoundOrder (5).
-/
import Derived.Test.Qxb6603824aProg
import Derived.WalkKit
import Derived.WalkSpells
namespace Go.Proofs.Qxb6603824a
open Go.RowKit

theorem round_zero (w : World) : Calls Try.prog 12 #[.int .u32 0] w fun e w' => e = .returned (.tuple #[.int .u32 0, .bool false]) ∧ w = w' := by
  go_enter Try.func12, Try.ntmps12
  go_wp2
  go_ret2
  exact ⟨rfl, rfl⟩
theorem round_pos (g : Int) (w : World) (h0 : 1 ≤ g) (h1 : g ≤ 4294967295) : Calls Try.prog 12 #[.int .u32 g] w fun e w' => e = .returned (.tuple #[.int .u32 (g - 1), .bool true]) ∧ w = w' := by
  have hq : (g == 0) = false := by simp; omega
  go_enter Try.func12, Try.ntmps12
  go_wp2
  go_ret2
  exact ⟨rfl, rfl⟩

theorem trip_max (w : World) : Calls Try.prog 4 #[.int .u32 4294967295] w fun e w' => e = .returned (.bool true) ∧ w = w' := by
  go_enter Try.func4, Try.ntmps4
  go_wp2_with (go_at_call 12; refine (round_zero _).mono ?_; rintro e w' ⟨rfl, rfl⟩)
  go_ret
  exact ⟨rfl, rfl⟩
theorem trip_less (r : Int) (w : World) (h0 : 0 ≤ r) (h1 : r ≤ 4294967294) : Calls Try.prog 4 #[.int .u32 r] w fun e w' => e = .returned (.bool true) ∧ w = w' := by
  have hq : (r == 4294967295) = false := by simp; omega
  have hr : (r + 1 - 1 == r) = true := by simp
  go_enter Try.func4, Try.ntmps4
  go_wp2_with (go_at_call 12; refine (round_pos _ _ (by omega) (by omega)).mono ?_; rintro e w' ⟨rfl, rfl⟩)
  go_ret
  exact ⟨rfl, rfl⟩
theorem law4 (r : Int) (w : World) (h0 : 0 ≤ r) (h1 : r ≤ 4294967295) : Calls Try.prog 4 #[.int .u32 r] w fun e w' => e = .returned (.bool true) ∧ w = w' := by
  by_cases h : r = 4294967295
  · rw [h]; exact trip_max w
  · exact trip_less r w h0 (by omega)

theorem ord_zl (b : Int) (w : World) (h0 : 1 ≤ b) (h1 : b ≤ 4294967295) : Calls Try.prog 5 #[.int .u32 0, .int .u32 b] w fun e w' => e = .returned (.bool true) ∧ w = w' := by
  have hq : (b != 0) = true := by simp; omega
  go_enter Try.func5, Try.ntmps5
  go_wp2_with fail
  refine (round_zero _).mono ?_
  rintro e w' ⟨rfl, rfl⟩
  go_wp2_with fail
  refine (round_pos _ _ h0 h1).mono ?_
  rintro e w' ⟨rfl, rfl⟩
  go_wp2
  go_ret
  exact ⟨rfl, rfl⟩
theorem ord_zr (a : Int) (w : World) (h0 : 1 ≤ a) (h1 : a ≤ 4294967295) : Calls Try.prog 5 #[.int .u32 a, .int .u32 0] w fun e w' => e = .returned (.bool true) ∧ w = w' := by
  have hq : (a != 0) = true := by simp; omega
  go_enter Try.func5, Try.ntmps5
  go_wp2_with fail
  refine (round_pos _ _ h0 h1).mono ?_
  rintro e w' ⟨rfl, rfl⟩
  go_wp2_with fail
  refine (round_zero _).mono ?_
  rintro e w' ⟨rfl, rfl⟩
  go_wp2
  go_ret
  exact ⟨rfl, rfl⟩
theorem ord_zz (w : World) : Calls Try.prog 5 #[.int .u32 0, .int .u32 0] w fun e w' => e = .returned (.bool true) ∧ w = w' := by
  go_enter Try.func5, Try.ntmps5
  go_wp2_with fail
  refine (round_zero _).mono ?_
  rintro e w' ⟨rfl, rfl⟩
  go_wp2_with fail
  refine (round_zero _).mono ?_
  rintro e w' ⟨rfl, rfl⟩
  go_wp2
  go_ret
  exact ⟨rfl, rfl⟩
theorem ord_lt (a b : Int) (w : World) (h0 : 1 ≤ a) (h1 : a ≤ 4294967295) (k0 : 1 ≤ b) (k1 : b ≤ 4294967295) (h : a < b) : Calls Try.prog 5 #[.int .u32 a, .int .u32 b] w fun e w' => e = .returned (.bool true) ∧ w = w' := by
  have ha : (a != 0) = true := by simp; omega
  have hb : (b != 0) = true := by simp; omega
  have e1 : decide (a - 1 < b - 1) = true := by simp; omega
  have e2 : decide (a < b) = true := by simpa using h
  have e3 : (a - 1 == b - 1) = false := by simp; omega
  have e4 : (a == b) = false := by simp; omega
  go_enter Try.func5, Try.ntmps5
  go_wp2_with fail
  refine (round_pos _ _ h0 h1).mono ?_
  rintro e w' ⟨rfl, rfl⟩
  go_wp2_with fail
  refine (round_pos _ _ k0 k1).mono ?_
  rintro e w' ⟨rfl, rfl⟩
  go_wp2
  go_ret
  exact ⟨rfl, rfl⟩
theorem ord_gt (a b : Int) (w : World) (h0 : 1 ≤ a) (h1 : a ≤ 4294967295) (k0 : 1 ≤ b) (k1 : b ≤ 4294967295) (h : b < a) : Calls Try.prog 5 #[.int .u32 a, .int .u32 b] w fun e w' => e = .returned (.bool true) ∧ w = w' := by
  have ha : (a != 0) = true := by simp; omega
  have hb : (b != 0) = true := by simp; omega
  have e1 : decide (a - 1 < b - 1) = false := by simp; omega
  have e2 : decide (a < b) = false := by simp; omega
  have e3 : (a - 1 == b - 1) = false := by simp; omega
  have e4 : (a == b) = false := by simp; omega
  go_enter Try.func5, Try.ntmps5
  go_wp2_with fail
  refine (round_pos _ _ h0 h1).mono ?_
  rintro e w' ⟨rfl, rfl⟩
  go_wp2_with fail
  refine (round_pos _ _ k0 k1).mono ?_
  rintro e w' ⟨rfl, rfl⟩
  go_wp2
  go_ret
  exact ⟨rfl, rfl⟩
theorem ord_eq (a : Int) (w : World) (h0 : 1 ≤ a) (h1 : a ≤ 4294967295) : Calls Try.prog 5 #[.int .u32 a, .int .u32 a] w fun e w' => e = .returned (.bool true) ∧ w = w' := by
  have ha : (a != 0) = true := by simp; omega
  have e1 : decide (a - 1 < a - 1) = false := by simp
  have e2 : decide (a < a) = false := by simp
  have e3 : (a - 1 == a - 1) = true := by simp
  have e4 : (a == a) = true := by simp
  go_enter Try.func5, Try.ntmps5
  go_wp2_with fail
  refine (round_pos _ _ h0 h1).mono ?_
  rintro e w' ⟨rfl, rfl⟩
  go_wp2_with fail
  refine (round_pos _ _ h0 h1).mono ?_
  rintro e w' ⟨rfl, rfl⟩
  go_wp2
  go_ret
  exact ⟨rfl, rfl⟩
theorem law5 (a b : Int) (w : World) (h0 : 0 ≤ a) (h1 : a ≤ 4294967295) (k0 : 0 ≤ b) (k1 : b ≤ 4294967295) : Calls Try.prog 5 #[.int .u32 a, .int .u32 b] w fun e w' => e = .returned (.bool true) ∧ w = w' := by
  by_cases ha : a = 0
  · by_cases hb : b = 0
    · rw [ha, hb]; exact ord_zz w
    · rw [ha]; exact ord_zl b w (by omega) k1
  · by_cases hb : b = 0
    · rw [hb]; exact ord_zr a w (by omega) h1
    · rcases (show a < b ∨ a = b ∨ b < a by omega) with h | h | h
      · exact ord_lt a b w (by omega) h1 (by omega) k1 h
      · rw [← h]; exact ord_eq a w (by omega) h1
      · exact ord_gt a b w (by omega) h1 (by omega) k1 h
end Go.Proofs.Qxb6603824a
