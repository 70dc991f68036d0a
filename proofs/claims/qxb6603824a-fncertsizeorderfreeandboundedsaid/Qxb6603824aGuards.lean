/-
  THE GUARDS' WALKS: zzBytes_.. (6), sgnWeight (7).
-/
import Derived.Test.Qxb6603824aProg
import Derived.Test.Qxb6603824aBase
import Derived.WalkSpells
import Derived.BigQuiet
import Derived.Deep.QuietTactic
namespace Go.Proofs.Qxb6603824a
open Go.RowKit

/-- what the guards read of element i -/
def El (w : World) (b o : Nat) (i p q : Nat) : Prop := ∃ s a d, w.cell? ⟨b, o + i * 2, none⟩ = some (.string s) ∧ s.size = p ∧ w.cell? ⟨b, o + i * 2 + 1, none⟩ = some (.slice a q d)
/-- some bool -/
def IsBool (e : Ending) : Prop := ∃ t, e = .returned (.bool t)
theorem IsBool.mk (t : Bool) : IsBool (.returned (.bool t)) := ⟨t, rfl⟩

theorem bytes_some (r : Int) (b o n c : Nat) (il sl : Nat → Nat) (w : World) (hel : ∀ i, i < n → El w b o i (il i) (sl i)) (hil : ∀ i, i < n → il i ≤ maxLen) (hsl : ∀ i, i < n → sl i ≤ maxLen) (hn : n ≤ maxLen) :
    Calls Try.prog 6 #[.int .u32 r, .slice (some ⟨b, o, none⟩) n c] w fun e w' => IsBool e ∧ w = w' := by
  unfold maxLen at hn hil hsl
  by_cases hbig : 1048576 < n
  · clear hel hil hsl
    go_enter Try.func6, Try.ntmps6
    go_wp2
    go_ret
    exact ⟨IsBool.mk _, rfl⟩
  · go_enter Try.func6, Try.ntmps6
    go_wp2
    go_loop [5, 6] (fun zs is => ∃ k z : Nat, k ≤ n ∧ z ≤ 1048576 ∧ is = .int .i64 k ∧ zs = .int .i64 z) (fun _ is => n - (intOf is).toNat)
    case atStart => exact ⟨0, n, Nat.zero_le _, by omega, rfl, by go_num⟩
    case round =>
      obtain ⟨k, z, hk, hz, rfl, rfl⟩ := hrel
      by_cases hlt : k < n
      · obtain ⟨s, a, d, c0, hs, c1⟩ := hel k hlt
        have hp := hil k hlt
        have hq := hsl k hlt
        generalize il k = p at hp hs
        generalize sl k = q at hq c1
        clear hel hil hsl
        by_cases h1 : 1048576 < p
        · go_wp2
          go_ret
          exact ⟨IsBool.mk _, rfl⟩
        by_cases h2 : 1048576 < z + p
        · go_wp2
          go_ret
          exact ⟨IsBool.mk _, rfl⟩
        by_cases h3 : 1048576 < q
        · go_wp2
          go_ret
          exact ⟨IsBool.mk _, rfl⟩
        by_cases h4 : 1048576 < z + p + q
        · go_wp2
          go_ret
          exact ⟨IsBool.mk _, rfl⟩
        · go_wp2
          go_round
          case rel => exact ⟨k + 1, z + p + q, by omega, by omega, by go_num, by go_num⟩
          case measure => simp [intOf]; omega
      · clear hel hil hsl
        go_wp2
        go_ret
        exact ⟨IsBool.mk _, rfl⟩
theorem bytes_zero (r : Int) (a : Option Addr) (c : Nat) (w : World) : Calls Try.prog 6 #[.int .u32 r, .slice a 0 c] w fun e w' => IsBool e ∧ w = w' := by
  go_enter Try.func6, Try.ntmps6
  go_wp2
  refine wp_loop_rounds 1 ?_
  rw [rounds_succ]
  go_wp2
  go_ret
  exact ⟨IsBool.mk _, rfl⟩

/-- The weight; where it lies within the bound it is the true one. -/
def IsWeight (n : Nat) (f : Nat → Nat) (e : Ending) : Prop := ∃ W : Int, e = .returned (.int .i64 W) ∧ (W ≤ 1048576 → 40 * n + S f n ≤ 1048576)
theorem IsWeight.far {n : Nat} {f : Nat → Nat} : IsWeight n f (.returned (.int .i64 2097152)) := ⟨_, rfl, fun h => by omega⟩
theorem IsWeight.near {n : Nat} {f : Nat → Nat} {t : Nat} (ht : t = 40 * n + S f n) : IsWeight n f (.returned (.int .i64 t)) := ⟨_, rfl, fun h => by omega⟩

set_option maxHeartbeats 800000 in
theorem weight_some (b o n c : Nat) (il sl : Nat → Nat) (w : World) (hel : ∀ i, i < n → El w b o i (il i) (sl i)) (hil : ∀ i, i < n → il i ≤ maxLen) (hsl : ∀ i, i < n → sl i ≤ maxLen) (hn : n ≤ maxLen) :
    Calls Try.prog 7 #[.slice (some ⟨b, o, none⟩) n c] w fun e w' => IsWeight n (fun i => il i + sl i) e ∧ Old w w' := by
  unfold maxLen at hn hil hsl
  by_cases hbig : 65536 < n
  · clear hel hil hsl
    go_enter Try.func7, Try.ntmps7
    go_wp2
    go_ret
    exact ⟨IsWeight.far, Old.refl _⟩
  · go_enter Try.func7, Try.ntmps7
    go_wp2
    go_loopw [3, 4] (fun ts is wr => ∃ k t m : Nat, k ≤ n ∧ t ≤ 4194304 ∧ t = 40 * n + S (fun i => il i + sl i) k ∧ is = .int .i64 k ∧ ts = .int .i64 t ∧ wr = w.drewN m) (fun _ is _ => n - (intOf is).toNat)
    case atStart => exact ⟨0, 40 * n, 0, Nat.zero_le _, by omega, rfl, rfl, by go_num, rfl⟩
    case round =>
      obtain ⟨k, t, m, hk, ht, hS, rfl, rfl, rfl⟩ := hrel
      have HS : Hid (t = 40 * n + S (fun i => il i + sl i) k) := hS
      clear hS
      by_cases hlt : k < n
      · obtain ⟨s, a, d, c0, hs, c1⟩ := hel k hlt
        have hp := hil k hlt
        have hq := hsl k hlt
        have HS2 : Hid (t + (il k + sl k) = 40 * n + S (fun i => il i + sl i) (k + 1)) := by
          show t + (il k + sl k) = 40 * n + (S (fun i => il i + sl i) k + (il k + sl k))
          rw [HS.out]; omega
        generalize il k = p at hp hs HS2
        generalize sl k = q at hq c1 HS2
        clear hel hil hsl
        by_cases h0 : 1048576 < t
        · go_wp2
          go_ret
          exact ⟨IsWeight.far, Old.drewN _ _⟩
        by_cases h1 : 1048576 < p
        · go_wp2
          go_ret
          exact ⟨IsWeight.far, Old.drewN _ _⟩
        by_cases h2 : 1048576 < q
        · go_wp2
          go_ret
          exact ⟨IsWeight.far, Old.drewN _ _⟩
        · go_wp2
          go_quiet (fail)
          go_wp2
          go_roundw
          case rel => exact ⟨k + 1, t + (p + q), _, by omega, by omega, HS2.out, by go_num, by go_num, rfl⟩
          case measure => simp [intOf]; omega
      · obtain rfl : k = n := by omega
        clear hel hil hsl
        by_cases h0 : 1048576 < t
        · go_wp2
          go_ret
          exact ⟨IsWeight.far, Old.drewN _ _⟩
        · go_wp2
          go_ret
          exact ⟨IsWeight.near HS.out, Old.drewN _ _⟩
theorem weight_zero (a : Option Addr) (c : Nat) (f : Nat → Nat) (w : World) : Calls Try.prog 7 #[.slice a 0 c] w fun e w' => IsWeight 0 f e ∧ Old w w' := by
  go_enter Try.func7, Try.ntmps7
  go_wp2
  refine wp_loop_rounds 1 ?_
  rw [rounds_succ]
  go_wp2
  go_ret
  exact ⟨IsWeight.near rfl, Old.refl _⟩
end Go.Proofs.Qxb6603824a
