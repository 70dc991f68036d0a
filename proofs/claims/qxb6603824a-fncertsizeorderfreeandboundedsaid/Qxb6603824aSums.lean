/-
  THE WALKS OF THE SUMS: idSigBytes (11), certSize (13), ZZCertSize (9).
-/
import Derived.Test.Qxb6603824aProg
import Derived.Test.Qxb6603824aRows2
import Derived.WalkSpells
namespace Go.Proofs.Qxb6603824a
open Go.RowKit

theorem ret_i64 {a b : Int} (h : a = b) : Ending.returned (.int .i64 a) = .returned (.int .i64 b) := by rw [h]

/-- the two cells of element i -/
def Pr (w : World) (g i p q : Nat) : Prop := ∃ s a d, w.cell? ⟨g, i * 2, none⟩ = some (.string s) ∧ s.size = p ∧ w.cell? ⟨g, i * 2 + 1, none⟩ = some (.slice a q d)

theorem idsig_some (g n c : Nat) (il sl : Nat → Nat) (w : World) (hn : n ≤ 65536) (hS : S il n + S sl n ≤ 1048576) (hpr : ∀ i, i < n → Pr w g i (il i) (sl i)) :
    Calls Try.prog 11 #[.slice (some ⟨g, 0, none⟩) n c] w fun e w' => e = .returned (.int .i64 ((S il n + S sl n : Nat) : Int)) ∧ w = w' := by
  go_enter Try.func11, Try.ntmps11
  go_wp2
  go_loop [3, 4] (fun ts is => ∃ k t : Nat, k ≤ n ∧ t = S il k ∧ is = .int .i64 k ∧ ts = .int .i64 t) (fun _ is => n - (intOf is).toNat)
  case atStart => exact ⟨0, 0, Nat.zero_le _, rfl, rfl, rfl⟩
  case round =>
    obtain ⟨k, t, hk, ht, rfl, rfl⟩ := hrel
    have HT : Hid (t = S il k) := ht
    have hb := S_mono il hk
    have htb : t ≤ 1048576 := by omega
    clear ht
    by_cases hlt : k < n
    · obtain ⟨s, a, d, c0, hs, c1⟩ := hpr k hlt
      have he := S_elem il hlt
      have hp : t + il k ≤ 1048576 := by rw [HT.out]; omega
      have HS2 : Hid (t + il k = S il (k + 1)) := by show t + il k = S il k + il k; rw [HT.out]
      clear he hb
      generalize il k = p at hs hp HS2
      clear hpr c1
      go_wp2
      go_round
      case rel => exact ⟨k + 1, t + p, by omega, HS2.out, by go_num, by go_num⟩
      case measure => simp [intOf]; omega
    · obtain rfl : k = n := by omega
      clear hb
      go_wp2
      go_loop [3, 5] (fun ts is => ∃ j u : Nat, j ≤ k ∧ u = t + S sl j ∧ is = .int .i64 j ∧ ts = .int .i64 u) (fun _ is => k - (intOf is).toNat)
      case atStart => exact ⟨0, t, Nat.zero_le _, rfl, rfl, rfl⟩
      case round =>
        obtain ⟨j, u, hj, hu, rfl, rfl⟩ := hrel
        have HU : Hid (u = t + S sl j) := hu
        have hb := S_mono sl hj
        have hub : u ≤ 1048576 := by have := HT.out; omega
        clear hu
        by_cases hlt' : j < k
        · obtain ⟨s, a, d, c0, hs, c1⟩ := hpr j hlt'
          have he := S_elem sl hlt'
          have hp : u + sl j ≤ 1048576 := by rw [HU.out, HT.out]; omega
          have HS2 : Hid (u + sl j = t + S sl (j + 1)) := by show u + sl j = t + (S sl j + sl j); rw [HU.out]; omega
          clear he hb
          generalize sl j = p at c1 hp HS2
          clear hpr c0 hs
          go_wp2
          go_round
          case rel => exact ⟨j + 1, u + p, by omega, HS2.out, by go_num, by go_num⟩
          case measure => simp [intOf]; omega
        · obtain rfl : j = k := by omega
          clear hpr hb
          go_wp2
          go_ret
          exact ⟨ret_i64 (by have h1 := HU.out; have h2 := HT.out; omega), rfl⟩
theorem idsig_zero (a : Option Addr) (c : Nat) (w : World) : Calls Try.prog 11 #[.slice a 0 c] w fun e w' => e = .returned (.int .i64 0) ∧ w = w' := by
  go_enter Try.func11, Try.ntmps11
  go_wp2
  refine wp_loop_rounds 1 ?_
  rw [rounds_succ]
  go_wp2
  refine wp_loop_rounds 1 ?_
  rw [rounds_succ]
  go_wp2
  go_ret
  exact ⟨rfl, rfl⟩

def cs (il sl : Nat → Nat) (i : Nat) : Nat := 32 + il i + sl i

theorem size_some (r : Int) (g n c : Nat) (il sl : Nat → Nat) (w : World) (hn : n ≤ 65536) (hS : S (cs il sl) n ≤ 1048576 * 4) (hg : g < w.heap.size) (hpr : ∀ i, i < n → Pr w g i (il i) (sl i)) :
    Calls Try.prog 13 #[.agg #[.int .u32 r, .slice (some ⟨g, 0, none⟩) n c]] w fun e w' => e = .returned (.int .i64 ((S (cs il sl) n : Nat) : Int)) ∧ Old w w' := by
  go_enter Try.func13, Try.ntmps13
  go_wp2
  go_loopw [3, 9] (fun ts is wr => ∃ k t : Nat, k ≤ n ∧ t = S (cs il sl) k ∧ is = .int .i64 k ∧ ts = .int .i64 t ∧ Old w wr) (fun _ is _ => n - (intOf is).toNat)
  case atStart => exact ⟨0, 0, Nat.zero_le _, rfl, rfl, rfl, Old.alloc _ _⟩
  case round =>
    obtain ⟨k, t, hk, ht, rfl, rfl, hold⟩ := hrel
    have HT : Hid (t = S (cs il sl) k) := ht
    have hb := S_mono (cs il sl) hk
    have htb : t ≤ 1048576 * 4 := by omega
    clear ht
    by_cases hlt : k < n
    · obtain ⟨s, a, d, c0, hs, c1⟩ := hpr k hlt
      have he := S_elem (cs il sl) hlt
      have hp : t + (32 + il k + sl k) ≤ 1048576 * 4 := by rw [HT.out]; exact Nat.le_trans he hS
      have HS2 : Hid (t + (32 + il k + sl k) = S (cs il sl) (k + 1)) := by show t + (32 + il k + sl k) = S (cs il sl) k + cs il sl k; rw [HT.out]; rfl
      have hg' : g < wr.heap.size := Nat.lt_of_lt_of_le hg hold.size
      have d0 : wr.cell? ⟨g, k * 2, none⟩ = some (.string s) := by rw [hold.cell (p := ⟨g, k * 2, none⟩) hg]; exact c0
      rw [← hold.cell (p := ⟨g, k * 2 + 1, none⟩) hg] at c1
      clear he hb c0
      generalize il k = p at hs hp HS2
      generalize sl k = q at c1 hp HS2
      clear hpr
      go_wp2
      go_roundw
      case rel => exact ⟨k + 1, t + (32 + p + q), by omega, HS2.out, by go_num, by go_num, hold.trans (Old.alloc _ _)⟩
      case measure => simp [intOf]; omega
    · obtain rfl : k = n := by omega
      clear hpr hb
      go_wp2
      go_ret
      exact ⟨ret_i64 (by rw [HT.out]), hold⟩
theorem size_zero (r : Int) (a : Option Addr) (c : Nat) (w : World) : Calls Try.prog 13 #[.agg #[.int .u32 r, .slice a 0 c]] w fun e w' => e = .returned (.int .i64 0) ∧ Old w w' := by
  go_enter Try.func13, Try.ntmps13
  go_wp2
  refine wp_loop_rounds 1 ?_
  rw [rounds_succ]
  go_wp2
  go_ret
  exact ⟨rfl, Old.alloc _ _⟩
/-- certSize of a certificate whose signers are read. -/
theorem size_any (r : Int) (v : Value) (n : Nat) (il sl : Nat → Nat) (w : World) (h : SRd w v n il sl) (hn : n ≤ 65536) (hS : S (cs il sl) n ≤ 1048576 * 4) :
    Calls Try.prog 13 #[.agg #[.int .u32 r, v]] w fun e w' => e = .returned (.int .i64 ((S (cs il sl) n : Nat) : Int)) ∧ Old w w' := by
  rcases h with ⟨rfl, rfl⟩ | ⟨g, c, rfl, hg, hc⟩
  · exact size_zero r none 0 w
  · exact size_some r g n c il sl w hn hS hg hc
theorem zzsize_any (r : Int) (v : Value) (n : Nat) (il sl : Nat → Nat) (w : World) (h : SRd w v n il sl) (hn : n ≤ 65536) (hS : S (cs il sl) n ≤ 1048576 * 4) :
    Calls Try.prog 9 #[.agg #[.int .u32 r, v]] w fun e w' => e = .returned (.int .i64 ((S (cs il sl) n : Nat) : Int)) ∧ Old w w' := by
  obtain ⟨a, c, rfl⟩ := h.form
  have hc := fun o => size_any r _ n il sl (w.alloc o) (h.old (Old.alloc w o)) hn hS
  generalize S (cs il sl) n = t at hc ⊢
  go_enter Try.func9, Try.ntmps9
  go_wp2_with fail
  refine (hc _).mono ?_
  rintro e w1 ⟨rfl, k1⟩
  go_wp2
  go_ret
  exact ⟨rfl, (Old.alloc w _).trans k1⟩
/-- idSigBytes of signers that are read. -/
theorem idsig_any (v : Value) (n : Nat) (il sl : Nat → Nat) (w : World) (h : SRd w v n il sl) (hn : n ≤ 65536) (hS : S il n + S sl n ≤ 1048576) :
    Calls Try.prog 11 #[v] w fun e w' => e = .returned (.int .i64 ((S il n + S sl n : Nat) : Int)) ∧ w = w' := by
  rcases h with ⟨rfl, rfl⟩ | ⟨g, c, rfl, hg, hc⟩
  · exact idsig_zero none 0 w
  · exact idsig_some g n c il sl w hn hS hc
end Go.Proofs.Qxb6603824a
