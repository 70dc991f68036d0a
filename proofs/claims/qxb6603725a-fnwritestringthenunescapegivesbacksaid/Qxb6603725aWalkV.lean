/-
  THE WALKS, V: ZZWriteString (13), zzB1Escape (16), the five tests on lengths.
-/
import Derived.Test.Qxb6603725aWalkW
namespace Go.Proofs.Qxb6603725a
open Go.RowKit

/-- ZZWriteString: out, then the quoted spelling of s. -/
theorem zzws_any (v : Value) (l : List Int) (s : Value) (sl : List Int) (w : World) (hown : Own w v l) (hs : Rd w s sl) (hsv : ∀ k, s.ownBlock = some k → v.ownBlock ≠ some k) (hbd : l.length + 6 * sl.length + 2 ≤ 70368744177664) :
    Calls Try.prog 13 #[v, s] w fun e w' => ∃ v', e = .returned v' ∧ Own w' v' (l ++ quote sl) ∧ Kept (fun j => some j = v.ownBlock) w w' ∧ Blk w v v' := by
  obtain ⟨va, vn, vc, rfl⟩ := hown.form
  obtain ⟨sa, sn, sc, rfl⟩ : ∃ a n c, s = .slice a n c := by
    rcases hs with ⟨rfl, _⟩ | ⟨g, o, c, rfl, _⟩
    · exact ⟨_, _, _, rfl⟩
    · exact ⟨_, _, _, rfl⟩
  go_enter Try.func13, Try.ntmps13
  go_wp2_with fail
  have hb0 : Box (w.alloc (.cells #[Value.slice va vn vc, Value.slice none 0 0, Value.slice none 0 0, Value.slice none 0 0, Value.slice none 0 0, Value.int IntKind.i64 0, Value.slice none 0 0] 43)) w.heap.size (.slice va vn vc) := ⟨_, heap_alloc_new w _, rfl⟩
  refine (ws_any w.heap.size _ l _ sl _ hb0 (hown.alloc _) (hs.alloc _) (fun e => absurd (hs.lt _ e) (Nat.lt_irrefl _)) hsv hbd).mono ?_
  rintro e w1 ⟨rfl, v1, b1, o1, k1, l1⟩
  have hc1 := b1.cell
  obtain ⟨a1, n1, c1, hv1⟩ := o1.form
  rw [hv1] at hc1
  go_wp2
  go_ret
  refine ⟨_, rfl, by rw [← hv1]; exact o1, ?_, ?_⟩
  · exact (Kept.alloc w _ (fun _ => False)).trans k1 (fun _ _ h => h.elim) (fun k hk h => h.elim (fun e => by omega) id)
  · rw [← hv1]
    rcases l1 with h | ⟨g, hg, h⟩
    · exact .inl h
    · exact .inr ⟨g, by simp at hg; omega, h⟩

/-- zzB1Escape: the escape, in a new block; nil where there is none. -/
theorem escape_some (c : Int) (e : List Int) (w : World) (h : esc c = some e) :
    Calls Try.prog 16 #[.int .u8 c] w fun en w' => en = .returned (.slice (some ⟨w.heap.size, 0, none⟩) e.length e.length) ∧ w' = w.alloc (.cells (cellsOf e).toArray 5) := by
  rcases esc_ways c with ⟨rfl, he⟩ | ⟨rfl, he⟩ | ⟨rfl, he⟩ | ⟨rfl, he⟩ | ⟨rfl, he⟩ | ⟨rfl, he⟩ | ⟨rfl, he⟩ | ⟨rfl, he⟩ | ⟨h1, h2, h3, h4, h5, h6, h7, h8, he⟩
  all_goals
    rw [he] at h
    cases h
  all_goals
    clear he
    go_enter Try.func16, Try.ntmps16
    go_wp2
    go_ret
    exact ⟨rfl, rfl⟩
theorem escape_none (c : Int) (w : World) (h : esc c = none) : Calls Try.prog 16 #[.int .u8 c] w fun en w' => en = .returned (.slice none 0 0) ∧ w = w' := by
  rcases esc_ways c with ⟨rfl, he⟩ | ⟨rfl, he⟩ | ⟨rfl, he⟩ | ⟨rfl, he⟩ | ⟨rfl, he⟩ | ⟨rfl, he⟩ | ⟨rfl, he⟩ | ⟨rfl, he⟩ | ⟨h1, h2, h3, h4, h5, h6, h7, h8, he⟩
  all_goals (first | (rw [he] at h; cases h; done) | skip)
  clear he h
  go_enter Try.func16, Try.ntmps16
  go_wp2
  go_ret
  exact ⟨rfl, rfl⟩

/-! The tests on lengths. -/
theorem zz8 (a : Option Addr) (n c : Nat) (w : World) : Calls Try.prog 8 #[.slice a n c] w fun e w' => e = .returned (.bool (decide (n ≤ 1048576))) ∧ w = w' := by
  by_cases h : n ≤ 1048576
  · go_enter Try.func8, Try.ntmps8
    go_wp2
    go_ret
    exact ⟨ret_bool (by simpa using h), rfl⟩
  · go_enter Try.func8, Try.ntmps8
    go_wp2
    go_ret
    exact ⟨ret_bool (by simpa using h), rfl⟩
theorem zz12 (a : Option Addr) (n c : Nat) (w : World) : Calls Try.prog 12 #[.slice a n c] w fun e w' => e = .returned (.bool (decide (n ≤ 1048576))) ∧ w = w' := by
  by_cases h : n ≤ 1048576
  · go_enter Try.func12, Try.ntmps12
    go_wp2
    go_ret
    exact ⟨ret_bool (by simpa using h), rfl⟩
  · go_enter Try.func12, Try.ntmps12
    go_wp2
    go_ret
    exact ⟨ret_bool (by simpa using h), rfl⟩
theorem zz19 (a : Option Addr) (n c : Nat) (w : World) : Calls Try.prog 19 #[.slice a n c] w fun e w' => e = .returned (.bool (decide (n ≤ 1048576))) ∧ w = w' := by
  by_cases h : n ≤ 1048576
  · go_enter Try.func19, Try.ntmps19
    go_wp2
    go_ret
    exact ⟨ret_bool (by simpa using h), rfl⟩
  · go_enter Try.func19, Try.ntmps19
    go_wp2
    go_ret
    exact ⟨ret_bool (by simpa using h), rfl⟩
theorem zz15 (a b : Option Addr) (n c m d : Nat) (w : World) : Calls Try.prog 15 #[.slice a n c, .slice b m d] w fun e w' => e = .returned (.bool (decide (n + m ≤ 1048576))) ∧ w = w' := by
  by_cases h : n ≤ 1048576
  · by_cases h2 : m ≤ 1048576
    · by_cases h3 : n + m ≤ 1048576
      · go_enter Try.func15, Try.ntmps15
        go_wp2
        go_ret
        exact ⟨ret_bool (by simpa using h3), rfl⟩
      · go_enter Try.func15, Try.ntmps15
        go_wp2
        go_ret
        exact ⟨ret_bool (by simpa using h3), rfl⟩
    · go_enter Try.func15, Try.ntmps15
      go_wp2
      go_ret
      exact ⟨ret_bool (by simp; omega), rfl⟩
  · go_enter Try.func15, Try.ntmps15
    go_wp2
    go_ret
    exact ⟨ret_bool (by simp; omega), rfl⟩
theorem zz17 (a b : Option Addr) (n c m d : Nat) (w : World) : Calls Try.prog 17 #[.slice a n c, .slice b m d] w fun e w' => e = .returned (.bool (decide (n + m ≤ 1048576))) ∧ w = w' := by
  by_cases h : n ≤ 1048576
  · by_cases h2 : m ≤ 1048576
    · by_cases h3 : n + m ≤ 1048576
      · go_enter Try.func17, Try.ntmps17
        go_wp2
        go_ret
        exact ⟨ret_bool (by simpa using h3), rfl⟩
      · go_enter Try.func17, Try.ntmps17
        go_wp2
        go_ret
        exact ⟨ret_bool (by simpa using h3), rfl⟩
    · go_enter Try.func17, Try.ntmps17
      go_wp2
      go_ret
      exact ⟨ret_bool (by simp; omega), rfl⟩
  · go_enter Try.func17, Try.ntmps17
    go_wp2
    go_ret
    exact ⟨ret_bool (by simp; omega), rfl⟩
end Go.Proofs.Qxb6603725a
