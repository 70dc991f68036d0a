/-
  THE WALKS, D: digitsEnd (30), zzB1AllDigits (28), zzB1Step (21), zzB1Accepting (22).
-/
import Derived.Test.Qxb6603725aWalkA
import Derived.Test.Qxb6603725aPlain4
namespace Go.Proofs.Qxb6603725a
open Go.RowKit
set_option linter.unusedSimpArgs false

theorem ret_i64 {a b : Int} (h : a = b) : Ending.returned (.int .i64 a) = .returned (.int .i64 b) := by rw [h]

/-- The ways of a byte. -/
theorem c_ways (c : Int) : (48 ≤ c ∧ c ≤ 57) ∨ c < 48 ∨ 57 < c := by omega
theorem isD_t {c : Int} (h : 48 ≤ c ∧ c ≤ 57) : isD c = true := by simp [isD, h]
theorem isD_f {c : Int} (h : c < 48 ∨ 57 < c) : isD c = false := by simp [isD]; omega

def dEnd (l : List Int) (i : Nat) : Nat := i + digs (l.drop i)
theorem dEnd_step {l : List Int} {k : Nat} {c : Int} (h : l[k]? = some c) (hd : isD c = true) : dEnd l (k + 1) = dEnd l k := by
  obtain ⟨hk, hx⟩ := List.getElem?_eq_some_iff.1 h
  unfold dEnd
  rw [List.drop_eq_getElem_cons hk, hx]
  simp [digs, hd]
  omega
theorem dEnd_stop {l : List Int} {k : Nat} {c : Int} (h : l[k]? = some c) (hd : isD c = false) : dEnd l k = k := by
  obtain ⟨hk, hx⟩ := List.getElem?_eq_some_iff.1 h
  unfold dEnd
  rw [List.drop_eq_getElem_cons hk, hx]
  simp [digs, hd]
theorem dEnd_end {l : List Int} {k : Nat} (h : l.length ≤ k) : dEnd l k = k := by
  unfold dEnd
  rw [List.drop_eq_nil_of_le h]
  simp [digs]
theorem dEnd_ge (l : List Int) (k : Nat) : k ≤ dEnd l k := by unfold dEnd; omega
theorem dEnd_le (l : List Int) (k : Nat) (h : k ≤ l.length) : dEnd l k ≤ l.length := by
  have := digs_le (l.drop k)
  unfold dEnd
  rw [List.length_drop] at this
  omega

theorem digitsEnd_some (g o n c i : Nat) (l : List Int) (w : World) (hn : l.length = n) (hmax : n ≤ 1048576) (hi : i ≤ n) (hcell : ∀ j, j < n → w.cell? ⟨g, o + j, none⟩ = some (.int .u8 (l.getD j 0))) :
    Calls Try.prog 30 #[.slice (some ⟨g, o, none⟩) n c, .int .i64 i] w fun e w' => e = .returned (.int .i64 (dEnd l i : Nat)) ∧ w = w' := by
  go_enter Try.func30, Try.ntmps30
  go_wp2
  go_loop [1] (fun ix => ∃ k : Nat, i ≤ k ∧ k ≤ n ∧ ix = .int .i64 k ∧ dEnd l k = dEnd l i) (fun ix => n - (intOf ix).toNat)
  case atStart => exact ⟨i, Nat.le_refl _, hi, rfl, rfl⟩
  case round =>
    obtain ⟨k, hik, hk, rfl, he⟩ := hrel
    have HE : Hid (dEnd l k = dEnd l i) := he
    clear he
    by_cases hlt : k < n
    · have hc := hcell k hlt
      have HC := hid_get l k (by omega)
      generalize l.getD k 0 = x at hc HC
      clear hcell
      rcases c_ways x with ⟨x1, x2⟩ | x1 | x1
      · have HD : Hid (isD x = true) := isD_t ⟨x1, x2⟩
        go_wp2
        go_round
        case rel => exact ⟨k + 1, by omega, by omega, by go_num, by rw [dEnd_step HC.out HD.out]; exact HE.out⟩
        case measure => simp [intOf]; omega
      all_goals
        have HD : Hid (isD x = false) := isD_f (by omega)
        go_wp2
        go_ret
        exact ⟨ret_i64 (by rw [← HE.out, dEnd_stop HC.out HD.out]), rfl⟩
    · clear hcell
      obtain rfl : k = n := by omega
      go_wp2
      go_ret
      exact ⟨ret_i64 (by rw [← HE.out, dEnd_end (by omega)]), rfl⟩
theorem digitsEnd_zero (a : Option Addr) (c : Nat) (w : World) : Calls Try.prog 30 #[.slice a 0 c, .int .i64 0] w fun e w' => e = .returned (.int .i64 0) ∧ w = w' := by
  go_enter Try.func30, Try.ntmps30
  go_wp2
  refine wp_loop_rounds 1 ?_
  rw [rounds_succ]
  go_wp2
  go_ret
  exact ⟨rfl, rfl⟩

theorem allDigits_some (g o n c : Nat) (l : List Int) (w : World) (hn : l.length = n) (hmax : n ≤ 1048576) (hd : ∀ x ∈ l, isD x = true) (hcell : ∀ j, j < n → w.cell? ⟨g, o + j, none⟩ = some (.int .u8 (l.getD j 0))) :
    Calls Try.prog 28 #[.slice (some ⟨g, o, none⟩) n c] w fun e w' => e = .returned (.bool true) ∧ w = w' := by
  have hdg : ∀ j, j < n → 48 ≤ l.getD j 0 ∧ l.getD j 0 ≤ 57 := fun j hj => by
    have hj' : j < l.length := by omega
    have h := hd l[j] (List.getElem_mem hj')
    simpa [isD, hj'] using h
  clear hd
  go_enter Try.func28, Try.ntmps28
  go_wp2
  go_loop [3] (fun ix => ∃ k : Nat, k ≤ n ∧ ix = .int .i64 k) (fun ix => n - (intOf ix).toNat)
  case atStart => exact ⟨0, Nat.zero_le _, rfl⟩
  case round =>
    obtain ⟨k, hk, rfl⟩ := hrel
    by_cases hlt : k < n
    · have hc := hcell k hlt
      obtain ⟨x1, x2⟩ := hdg k hlt
      generalize l.getD k 0 = x at hc x1 x2
      clear hcell hdg
      go_wp2
      go_round
      case rel => exact ⟨k + 1, by omega, by go_num⟩
      case measure => simp [intOf]; omega
    · clear hcell hdg
      go_wp2
      go_ret
      exact ⟨rfl, rfl⟩
theorem allDigits_zero (a : Option Addr) (c : Nat) (w : World) : Calls Try.prog 28 #[.slice a 0 c] w fun e w' => e = .returned (.bool true) ∧ w = w' := by
  go_enter Try.func28, Try.ntmps28
  go_wp2
  refine wp_loop_rounds 1 ?_
  rw [rounds_succ]
  go_wp2
  go_ret
  exact ⟨rfl, rfl⟩
/-- zzB1AllDigits, where all are digits. -/
theorem allDigits_any (v : Value) (l : List Int) (w : World) (h : Rd w v l) (hmax : l.length ≤ 1048576) (hd : ∀ x ∈ l, isD x = true) : Calls Try.prog 28 #[v] w fun e w' => e = .returned (.bool true) ∧ w = w' := by
  obtain ⟨a, c, rfl⟩ := h.form
  by_cases h0 : l.length = 0
  · rw [h0]; exact allDigits_zero a c w
  · obtain ⟨g, o, rfl, -, h1, h2, h3, h4⟩ := h.addr (by omega)
    exact allDigits_some g o _ c l w rfl hmax hd h4

/-! The automaton. -/
theorem acc_any (st : Int) (w : World) (h : st = -1 ∨ st = 0 ∨ st = 1 ∨ st = 2 ∨ st = 3 ∨ st = 4 ∨ st = 5) : Calls Try.prog 22 #[.int .i64 st] w fun e w' => e = .returned (.bool (acc st)) ∧ w = w' := by
  rcases h with rfl | rfl | rfl | rfl | rfl | rfl | rfl
  all_goals
    go_enter Try.func22, Try.ntmps22
    go_wp2
    go_ret
    exact ⟨rfl, rfl⟩

theorem b_ways (c : Int) : (48 ≤ c ∧ c ≤ 57) ∨ c = 46 ∨ c = 43 ∨ c = 45 ∨ (c < 48 ∧ c ≠ 46 ∧ c ≠ 43 ∧ c ≠ 45) ∨ c = 101 ∨ c = 69 ∨ (57 < c ∧ c ≠ 101 ∧ c ≠ 69) := by omega

theorem step_0 (c : Int) (w : World) (h0 : 0 ≤ c) (h1 : c ≤ 255) : Calls Try.prog 21 #[.int .i64 0, .int .u8 c] w fun e w' => e = .returned (.int .i64 (stp 0 c)) ∧ w = w' := by
  rcases b_ways c with ⟨x1, x2⟩ | rfl | rfl | rfl | ⟨x1, x2, x3, x4⟩ | rfl | rfl | ⟨x1, x2, x3⟩
  · have e : stp 0 c = 1 := by simp [stp, isD_t ⟨x1, x2⟩]
    rw [e]
    clear e
    go_enter Try.func21, Try.ntmps21
    go_wp2
    go_ret
    exact ⟨rfl, rfl⟩
  case inr.inr.inr.inr.inl =>
    have e : stp 0 c = -1 := by simp [stp, isD_f (Or.inl x1), isE, isS, x2, x3, x4]
    rw [e]
    clear e
    have q1 : (c == 46) = false := by simpa using x2
    have q2 : (c == 43) = false := by simpa using x3
    have q3 : (c == 45) = false := by simpa using x4
    have q4 : (c == 101) = false := by simp; omega
    have q5 : (c == 69) = false := by simp; omega
    clear x2 x3 x4
    go_enter Try.func21, Try.ntmps21
    go_wp2
    go_ret
    exact ⟨rfl, rfl⟩
  case inr.inr.inr.inr.inr.inr.inr =>
    have e : stp 0 c = -1 := by simp [stp, isD_f (Or.inr x1), isE, isS, x2, x3]
    rw [e]
    clear e
    have q1 : (c == 46) = false := by simp; omega
    have q2 : (c == 43) = false := by simp; omega
    have q3 : (c == 45) = false := by simp; omega
    have q4 : (c == 101) = false := by simpa using x2
    have q5 : (c == 69) = false := by simpa using x3
    clear x2 x3
    go_enter Try.func21, Try.ntmps21
    go_wp2
    go_ret
    exact ⟨rfl, rfl⟩
  all_goals
    go_enter Try.func21, Try.ntmps21
    go_wp2
    go_ret
    exact ⟨rfl, rfl⟩

theorem step_1 (c : Int) (w : World) (h0 : 0 ≤ c) (h1 : c ≤ 255) : Calls Try.prog 21 #[.int .i64 1, .int .u8 c] w fun e w' => e = .returned (.int .i64 (stp 1 c)) ∧ w = w' := by
  rcases b_ways c with ⟨x1, x2⟩ | rfl | rfl | rfl | ⟨x1, x2, x3, x4⟩ | rfl | rfl | ⟨x1, x2, x3⟩
  · have e : stp 1 c = 1 := by simp [stp, isD_t ⟨x1, x2⟩]
    rw [e]
    clear e
    go_enter Try.func21, Try.ntmps21
    go_wp2
    go_ret
    exact ⟨rfl, rfl⟩
  case inr.inr.inr.inr.inl =>
    have e : stp 1 c = -1 := by simp [stp, isD_f (Or.inl x1), isE, isS, x2, x3, x4]; omega
    rw [e]
    clear e
    have q1 : (c == 46) = false := by simpa using x2
    have q2 : (c == 43) = false := by simpa using x3
    have q3 : (c == 45) = false := by simpa using x4
    have q4 : (c == 101) = false := by simp; omega
    have q5 : (c == 69) = false := by simp; omega
    clear x2 x3 x4
    go_enter Try.func21, Try.ntmps21
    go_wp2
    go_ret
    exact ⟨rfl, rfl⟩
  case inr.inr.inr.inr.inr.inr.inr =>
    have e : stp 1 c = -1 := by simp [stp, isD_f (Or.inr x1), isE, isS, x2, x3]; omega
    rw [e]
    clear e
    have q1 : (c == 46) = false := by simp; omega
    have q2 : (c == 43) = false := by simp; omega
    have q3 : (c == 45) = false := by simp; omega
    have q4 : (c == 101) = false := by simpa using x2
    have q5 : (c == 69) = false := by simpa using x3
    clear x2 x3
    go_enter Try.func21, Try.ntmps21
    go_wp2
    go_ret
    exact ⟨rfl, rfl⟩
  all_goals
    go_enter Try.func21, Try.ntmps21
    go_wp2
    go_ret
    exact ⟨rfl, rfl⟩

theorem step_2 (c : Int) (w : World) (h0 : 0 ≤ c) (h1 : c ≤ 255) : Calls Try.prog 21 #[.int .i64 2, .int .u8 c] w fun e w' => e = .returned (.int .i64 (stp 2 c)) ∧ w = w' := by
  rcases b_ways c with ⟨x1, x2⟩ | rfl | rfl | rfl | ⟨x1, x2, x3, x4⟩ | rfl | rfl | ⟨x1, x2, x3⟩
  · have e : stp 2 c = 2 := by simp [stp, isD_t ⟨x1, x2⟩]
    rw [e]
    clear e
    go_enter Try.func21, Try.ntmps21
    go_wp2
    go_ret
    exact ⟨rfl, rfl⟩
  case inr.inr.inr.inr.inl =>
    have e : stp 2 c = -1 := by simp [stp, isD_f (Or.inl x1), isE, isS, x2, x3, x4]; omega
    rw [e]
    clear e
    have q1 : (c == 46) = false := by simpa using x2
    have q2 : (c == 43) = false := by simpa using x3
    have q3 : (c == 45) = false := by simpa using x4
    have q4 : (c == 101) = false := by simp; omega
    have q5 : (c == 69) = false := by simp; omega
    clear x2 x3 x4
    go_enter Try.func21, Try.ntmps21
    go_wp2
    go_ret
    exact ⟨rfl, rfl⟩
  case inr.inr.inr.inr.inr.inr.inr =>
    have e : stp 2 c = -1 := by simp [stp, isD_f (Or.inr x1), isE, isS, x2, x3]
    rw [e]
    clear e
    have q1 : (c == 46) = false := by simp; omega
    have q2 : (c == 43) = false := by simp; omega
    have q3 : (c == 45) = false := by simp; omega
    have q4 : (c == 101) = false := by simpa using x2
    have q5 : (c == 69) = false := by simpa using x3
    clear x2 x3
    go_enter Try.func21, Try.ntmps21
    go_wp2
    go_ret
    exact ⟨rfl, rfl⟩
  all_goals
    go_enter Try.func21, Try.ntmps21
    go_wp2
    go_ret
    exact ⟨rfl, rfl⟩

theorem step_3 (c : Int) (w : World) (h0 : 0 ≤ c) (h1 : c ≤ 255) : Calls Try.prog 21 #[.int .i64 3, .int .u8 c] w fun e w' => e = .returned (.int .i64 (stp 3 c)) ∧ w = w' := by
  rcases b_ways c with ⟨x1, x2⟩ | rfl | rfl | rfl | ⟨x1, x2, x3, x4⟩ | rfl | rfl | ⟨x1, x2, x3⟩
  · have e : stp 3 c = 5 := by simp [stp, isD_t ⟨x1, x2⟩]
    rw [e]
    clear e
    go_enter Try.func21, Try.ntmps21
    go_wp2
    go_ret
    exact ⟨rfl, rfl⟩
  case inr.inr.inr.inr.inl =>
    have e : stp 3 c = -1 := by simp [stp, isD_f (Or.inl x1), isE, isS, x2, x3, x4]
    rw [e]
    clear e
    have q1 : (c == 46) = false := by simpa using x2
    have q2 : (c == 43) = false := by simpa using x3
    have q3 : (c == 45) = false := by simpa using x4
    have q4 : (c == 101) = false := by simp; omega
    have q5 : (c == 69) = false := by simp; omega
    clear x2 x3 x4
    go_enter Try.func21, Try.ntmps21
    go_wp2
    go_ret
    exact ⟨rfl, rfl⟩
  case inr.inr.inr.inr.inr.inr.inr =>
    have e : stp 3 c = -1 := by simp [stp, isD_f (Or.inr x1), isE, isS, x2, x3]; omega
    rw [e]
    clear e
    have q1 : (c == 46) = false := by simp; omega
    have q2 : (c == 43) = false := by simp; omega
    have q3 : (c == 45) = false := by simp; omega
    have q4 : (c == 101) = false := by simpa using x2
    have q5 : (c == 69) = false := by simpa using x3
    clear x2 x3
    go_enter Try.func21, Try.ntmps21
    go_wp2
    go_ret
    exact ⟨rfl, rfl⟩
  all_goals
    go_enter Try.func21, Try.ntmps21
    go_wp2
    go_ret
    exact ⟨rfl, rfl⟩

theorem step_4 (c : Int) (w : World) (h0 : 0 ≤ c) (h1 : c ≤ 255) : Calls Try.prog 21 #[.int .i64 4, .int .u8 c] w fun e w' => e = .returned (.int .i64 (stp 4 c)) ∧ w = w' := by
  rcases b_ways c with ⟨x1, x2⟩ | rfl | rfl | rfl | ⟨x1, x2, x3, x4⟩ | rfl | rfl | ⟨x1, x2, x3⟩
  · have e : stp 4 c = 5 := by simp [stp, isD_t ⟨x1, x2⟩]
    rw [e]
    clear e
    go_enter Try.func21, Try.ntmps21
    go_wp2
    go_ret
    exact ⟨rfl, rfl⟩
  case inr.inr.inr.inr.inl =>
    have e : stp 4 c = -1 := by simp [stp, isD_f (Or.inl x1), isE, isS, x2, x3, x4]
    rw [e]
    clear e
    have q1 : (c == 46) = false := by simpa using x2
    have q2 : (c == 43) = false := by simpa using x3
    have q3 : (c == 45) = false := by simpa using x4
    have q4 : (c == 101) = false := by simp; omega
    have q5 : (c == 69) = false := by simp; omega
    clear x2 x3 x4
    go_enter Try.func21, Try.ntmps21
    go_wp2
    go_ret
    exact ⟨rfl, rfl⟩
  case inr.inr.inr.inr.inr.inr.inr =>
    have e : stp 4 c = -1 := by simp [stp, isD_f (Or.inr x1), isE, isS, x2, x3]
    rw [e]
    clear e
    have q1 : (c == 46) = false := by simp; omega
    have q2 : (c == 43) = false := by simp; omega
    have q3 : (c == 45) = false := by simp; omega
    have q4 : (c == 101) = false := by simpa using x2
    have q5 : (c == 69) = false := by simpa using x3
    clear x2 x3
    go_enter Try.func21, Try.ntmps21
    go_wp2
    go_ret
    exact ⟨rfl, rfl⟩
  all_goals
    go_enter Try.func21, Try.ntmps21
    go_wp2
    go_ret
    exact ⟨rfl, rfl⟩

theorem step_5 (c : Int) (w : World) (h0 : 0 ≤ c) (h1 : c ≤ 255) : Calls Try.prog 21 #[.int .i64 5, .int .u8 c] w fun e w' => e = .returned (.int .i64 (stp 5 c)) ∧ w = w' := by
  rcases b_ways c with ⟨x1, x2⟩ | rfl | rfl | rfl | ⟨x1, x2, x3, x4⟩ | rfl | rfl | ⟨x1, x2, x3⟩
  · have e : stp 5 c = 5 := by simp [stp, isD_t ⟨x1, x2⟩]
    rw [e]
    clear e
    go_enter Try.func21, Try.ntmps21
    go_wp2
    go_ret
    exact ⟨rfl, rfl⟩
  case inr.inr.inr.inr.inl =>
    have e : stp 5 c = -1 := by simp [stp, isD_f (Or.inl x1), isE, isS, x2, x3, x4]
    rw [e]
    clear e
    have q1 : (c == 46) = false := by simpa using x2
    have q2 : (c == 43) = false := by simpa using x3
    have q3 : (c == 45) = false := by simpa using x4
    have q4 : (c == 101) = false := by simp; omega
    have q5 : (c == 69) = false := by simp; omega
    clear x2 x3 x4
    go_enter Try.func21, Try.ntmps21
    go_wp2
    go_ret
    exact ⟨rfl, rfl⟩
  case inr.inr.inr.inr.inr.inr.inr =>
    have e : stp 5 c = -1 := by simp [stp, isD_f (Or.inr x1), isE, isS, x2, x3]
    rw [e]
    clear e
    have q1 : (c == 46) = false := by simp; omega
    have q2 : (c == 43) = false := by simp; omega
    have q3 : (c == 45) = false := by simp; omega
    have q4 : (c == 101) = false := by simpa using x2
    have q5 : (c == 69) = false := by simpa using x3
    clear x2 x3
    go_enter Try.func21, Try.ntmps21
    go_wp2
    go_ret
    exact ⟨rfl, rfl⟩
  all_goals
    go_enter Try.func21, Try.ntmps21
    go_wp2
    go_ret
    exact ⟨rfl, rfl⟩

theorem stp_range (st c : Int) : stp st c = -1 ∨ stp st c = 0 ∨ stp st c = 1 ∨ stp st c = 2 ∨ stp st c = 3 ∨ stp st c = 4 ∨ stp st c = 5 := by
  unfold stp
  repeat' split
  all_goals simp
/-- zzB1Step. -/
theorem step_any (st c : Int) (w : World) (h : st = 0 ∨ st = 1 ∨ st = 2 ∨ st = 3 ∨ st = 4 ∨ st = 5) (h0 : 0 ≤ c) (h1 : c ≤ 255) :
    Calls Try.prog 21 #[.int .i64 st, .int .u8 c] w fun e w' => e = .returned (.int .i64 (stp st c)) ∧ w = w' := by
  rcases h with rfl | rfl | rfl | rfl | rfl | rfl
  · exact step_0 c w h0 h1
  · exact step_1 c w h0 h1
  · exact step_2 c w h0 h1
  · exact step_3 c w h0 h1
  · exact step_4 c w h0 h1
  · exact step_5 c w h0 h1
end Go.Proofs.Qxb6603725a
