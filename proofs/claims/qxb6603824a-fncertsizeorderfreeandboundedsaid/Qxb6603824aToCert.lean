/-
  THE WALK OF toCert (10).
-/
import Derived.Test.Qxb6603824aSums
import Derived.RegionTactic
namespace Go.Proofs.Qxb6603824a
open Go.RowKit
set_option maxRecDepth 100000

theorem info40 : (Try.prog.info? 40).map (fun i => (i.zero, i.size, i.bytes)) = some (some (.agg #[.string ⟨#[]⟩, .slice none 0 0]), 2, 40) := by kernel_rfl
theorem info29 : (Try.prog.info? 29).map (fun i => (i.zero, i.size, i.bytes)) = some (some (.agg #[.string ⟨#[]⟩, .slice none 0 0]), 2, 40) := by kernel_rfl

theorem tocert_nil (r : Int) (w : World) : Calls Try.prog 10 #[.int .u32 r, .slice none 0 0] w fun e w' => e = .returned (.agg #[.int .u32 r, .slice none 0 0]) ∧ Old w w' := by
  have q23 : ∀ (w : World) (a : Option Addr) (n c n' c' : Nat), (binOp .eql 23 (.slice a n c) (.slice none n' c')).run Try.prog w = .ok (.bool a.isNone) w := fun w a n c n' c' => Lib.run_eql_slice_nil w _ _ a n c n' c' Try.underlying23
  go_enter Try.func10, Try.ntmps10
  go_wp2
  exact bodyPost_ret (v := .agg #[.int .u32 r, .slice none 0 0]) (by simp [results, Try.results10, go_sem]) rfl ⟨rfl, Old.alloc _ _⟩

set_option maxHeartbeats 800000 in
theorem tocert_some (r : Int) (g n c : Nat) (il sl : Nat → Nat) (w : World) (hn : n ≤ 65536) (hg : g < w.heap.size) (hpr : ∀ i, i < n → Pr w g i (il i) (sl i)) :
    Calls Try.prog 10 #[.int .u32 r, .slice (some ⟨g, 0, none⟩) n c] w fun e w' => ∃ v', e = .returned (.agg #[.int .u32 r, v']) ∧ SRd w' v' n il sl ∧ Old w w' := by
  obtain ⟨ti, hi, hz0, hz1, hz2⟩ := info_parts info40
  have q23 : ∀ (w : World) (a : Option Addr) (n c n' c' : Nat), (binOp .eql 23 (.slice a n c) (.slice none n' c')).run Try.prog w = .ok (.bool a.isNone) w := fun w a n c n' c' => Lib.run_eql_slice_nil w _ _ a n c n' c' Try.underlying23
  go_enter Try.func10, Try.ntmps10
  go_wp2_with (at_make; refine wpList_make_full _ rfl _ _ 31 rfl 0 40 ti _ 2 Try.underlying31 hi hz0 hz1 _ _ _ _ n rfl rfl (by omega) (by omega) ?b2 ?b3 (Nat.zero_le _) ?_)
  case b2 => rw [hz2]; omega
  case b3 => unfold maxLen; omega
  intro w1 hown hgrow
  have hR : Row2 w1 (w.heap.size + 1) 40 n (fun _ => False) il sl := Row2.made (by simpa using hown)
  have hO : Old w w1 := (Old.alloc w _).made hgrow
  have hO1 : Old (w.alloc (.cells #[.int .u32 0, .slice none 0 0] 33)) w1 := (Old.refl _).made hgrow
  have hB : w1.heap[w.heap.size]? = some (.cells #[.int .u32 0, .slice none 0 0] 33 (0, 0)) := by
    rw [hO1.block w.heap.size (by simp) (fun h => h)]
    exact heap_alloc_new w _
  clear hown hgrow hO1
  go_wp2
  go_loopw [6] (fun is wr => ∃ k : Nat, k ≤ n ∧ is = .int .i64 k ∧ Row2 wr (w.heap.size + 1) 40 n (fun i => i < k) il sl ∧ Old w wr ∧ wr.heap[w.heap.size]? = some (.cells #[.int .u32 0, .slice none 0 0] 33 (0, 0))) (fun is _ => n - (intOf is).toNat)
  case atStart => exact ⟨0, Nat.zero_le _, rfl, hR.mono (fun i _ h => by omega), hO, hB⟩
  case round =>
    obtain ⟨k, hk, rfl, hR, hO, hB⟩ := hrel
    by_cases hlt : k < n
    · obtain ⟨s, a, d, c0, hs, c1⟩ := hpr k hlt
      rw [← hO.cell (p := ⟨g, k * 2, none⟩) hg] at c0
      rw [← hO.cell (p := ⟨g, k * 2 + 1, none⟩) hg] at c1
      obtain ⟨x0, hx0⟩ := hR.cell (j := k * 2) (by omega)
      obtain ⟨x1, hx1⟩ := hR.cell (j := k * 2 + 1) (by omega)
      have f0 := hR.free (k * 2)
      have f1 := hR.free (k * 2 + 1)
      have hset := hR.set hlt (a := a) (m := sl k) (d := d) hs rfl
      generalize sl k = q at c1 hset
      have HSET : Hid (Row2 ((wr.setCell ⟨w.heap.size + 1, k * 2, none⟩ (.string s)).setCell ⟨w.heap.size + 1, k * 2 + 1, none⟩ (.slice a q d)) (w.heap.size + 1) 40 n (fun i => i < k ∨ i = k) il sl) := hset
      have HBX : Hid (((wr.setCell ⟨w.heap.size + 1, k * 2, none⟩ (.string s)).setCell ⟨w.heap.size + 1, k * 2 + 1, none⟩ (.slice a q d)).heap[w.heap.size]? = some (.cells #[.int .u32 0, .slice none 0 0] 33 (0, 0))) := by
        show _ = _
        rw [Below.heap_setCell _ _ _ _ (by simp), Below.heap_setCell _ _ _ _ (by simp)]
        exact hB
      have HO2 : Hid (Old w ((wr.setCell ⟨w.heap.size + 1, k * 2, none⟩ (.string s)).setCell ⟨w.heap.size + 1, k * 2 + 1, none⟩ (.slice a q d))) := (hO.setCell (by simp) _).setCell (by simp) _
      clear hpr hset hs hB hR
      go_wp2
      go_region
      all_goals go_wp2
      all_goals go_roundw
      case rel => exact ⟨k + 1, by omega, by go_num, (HSET.out.mono (fun i _ h => by omega)).old (Old.drew _), HO2.out.trans (Old.drew _), HBX.out⟩
      case measure => simp [intOf]; omega
    · obtain rfl : k = n := by omega
      have b0 : wr.cell? ⟨w.heap.size, 0, none⟩ = some (.int .u32 0) := by rw [cell_of_row wr _ 0 _ 33 (0, 0) hB]; rfl
      have b1 : wr.cell? ⟨w.heap.size, 1, none⟩ = some (.slice none 0 0) := by rw [cell_of_row wr _ 1 _ 33 (0, 0) hB]; rfl
      have f0 := frozen_of_row wr w.heap.size 0 _ 33 hB
      have f1 := frozen_of_row wr w.heap.size 1 _ 33 hB
      have hsz : w.heap.size < wr.heap.size := lt_of_block hB
      clear hpr hB
      have hS := (hR.kept (Kept.setCell wr ⟨w.heap.size, 0, none⟩ (.int .u32 r)) (by simp)).kept (Kept.setCell _ ⟨w.heap.size, 1, none⟩ (.slice (some ⟨w.heap.size + 1, 0, none⟩) k k)) (by simp)
      have HSR := hS.full (fun i hi => hi) k
      have HSO := (hO.setCell (a := ⟨w.heap.size, 0, none⟩) (by simp) (.int .u32 r)).setCell (a := ⟨w.heap.size, 1, none⟩) (by simp) (.slice (some ⟨w.heap.size + 1, 0, none⟩) k k)
      clear hS hR
      go_wp2
      exact bodyPost_ret (v := .agg #[.int .u32 r, .slice (some ⟨w.heap.size + 1, 0, none⟩) k k]) (by simp [results, Try.results10, go_sem, b0, b1]) rfl ⟨_, rfl, HSR, HSO⟩
end Go.Proofs.Qxb6603824a
