/-
  THE WALKS, A: zzB1Clone (9), zzB1Equal (14).
-/
import Derived.Test.Qxb6603725aProg
import Derived.Test.Qxb6603725aBase
import Derived.WalkSpells
import Derived.BigQuiet
import Derived.Deep.QuietTactic
namespace Go.Proofs.Qxb6603725a
open Go.RowKit

theorem info5 : (Try.prog.info? 5).map (fun i => (i.zero, i.size, i.bytes)) = some (some (.int .u8 0), 1, 1) := by kernel_rfl

theorem clone_some (b off n c : Nat) (l : List Int) (w : World) (hn : l.length = n) (hmax : n ≤ 1048576) (hb : b < w.heap.size) (hcell : ∀ i, i < n → w.cell? ⟨b, off + i, none⟩ = some (.int .u8 (l.getD i 0))) :
    Calls Try.prog 9 #[.slice (some ⟨b, off, none⟩) n c] w fun e w' => e = .returned (.slice (some ⟨w.heap.size, 0, none⟩) n n) ∧ Own w' (.slice (some ⟨w.heap.size, 0, none⟩) n n) l ∧ Kept (fun _ => False) w w' := by
  obtain ⟨i0, hi, hz0, hz1, hz2⟩ := info_parts info5
  have q22 : ∀ (w : World) (a : Option Addr) (n c n' c' : Nat), (binOp .eql 22 (.slice a n c) (.slice none n' c')).run Try.prog w = .ok (.bool a.isNone) w := fun w a n c n' c' => Lib.run_eql_slice_nil w _ _ a n c n' c' Try.underlying22
  go_enter Try.func9, Try.ntmps9
  go_wp2_with (at_make; refine wpList_make_full _ rfl _ _ 22 rfl w.heap.size 5 i0 (.int .u8 0) 1 Try.underlying22 hi hz0 hz1 _ _ _ _ n rfl rfl (by omega) (by omega) ?b2 ?b3 (Nat.le_refl _) ?_)
  case b2 => rw [hz2]; omega
  case b3 => unfold maxLen; omega
  intro w1 hown hgrow
  go_wp2
  go_loopw [4] (fun i wr => ∃ k : Nat, k ≤ n ∧ i = .int .i64 k ∧ wr.ownsRow w.heap.size 5 1 (.slice (some ⟨w.heap.size, 0, none⟩) n n) n (fillOf l n k) ∧ Below w.heap.size w wr) (fun i _ => n - (intOf i).toNat)
  case atStart =>
    refine ⟨0, Nat.zero_le _, rfl, ?_, (Below.refl _ _).grown hgrow (Nat.le_refl _) (fun k h => by cases h)⟩
    rw [fillOf_zero, ← toList_madeCells_one]
    simpa [Value.cells] using hown
  case round =>
    obtain ⟨k, hk, rfl, hown', hnx⟩ := hrel
    by_cases hlt : k < n
    · have hst := hown'.stored k (.int .u8 (l.getD k 0))
      rw [fillOf_set l n k hn hlt] at hst
      have hc' : wr.cell? ⟨b, off + k, none⟩ = some (.int .u8 (l.getD k 0)) := (hnx.cell (by exact hb)).trans (hcell k hlt)
      have hd' : wr.cell? ⟨w.heap.size, k, none⟩ = some (.int .u8 0) := (hown'.cellAt k (by omega)).trans (fillOf_some l n k hn hlt)
      have hf' := hown'.frozenAt k
      generalize l.getD k 0 = u at hst hc'
      go_wp2
      go_roundw
      case rel => exact ⟨k + 1, by omega, by go_num, hst.1, hnx.grown hst.2 (by have := hnx.size; omega) (fun k hk => by cases hk; exact Nat.le_refl _)⟩
      case measure => simp [intOf]; omega
    · have hkn : k = n := by omega
      subst hkn
      rw [fillOf_full l k hn] at hown'
      go_wp2
      go_ret
      subst hn
      refine ⟨rfl, ⟨hown'.1, ?_⟩, (Kept.ofBelow hnx).mono (fun k hk h => by omega)⟩
      rcases hown'.2 with h | ⟨g, cap, cur, h1, h2, h3⟩
      · exact .inl h
      · exact .inr ⟨g, cap, cur, h1, Nat.zero_le _, h3⟩

theorem clone_empty (x : Addr) (c : Nat) (w : World) :
    Calls Try.prog 9 #[.slice (some x) 0 c] w fun e w' => e = .returned (.slice (some ⟨w.heap.size, 0, none⟩) 0 0) ∧ Own w' (.slice (some ⟨w.heap.size, 0, none⟩) 0 0) [] ∧ Kept (fun _ => False) w w' := by
  obtain ⟨i0, hi, hz0, hz1, hz2⟩ := info_parts info5
  have q22 : ∀ (w : World) (a : Option Addr) (n c n' c' : Nat), (binOp .eql 22 (.slice a n c) (.slice none n' c')).run Try.prog w = .ok (.bool a.isNone) w := fun w a n c n' c' => Lib.run_eql_slice_nil w _ _ a n c n' c' Try.underlying22
  go_enter Try.func9, Try.ntmps9
  go_wp2_with (at_make; refine wpList_make_full _ rfl _ _ 22 rfl w.heap.size 5 i0 (.int .u8 0) 1 Try.underlying22 hi hz0 hz1 _ _ _ _ 0 rfl rfl (by simp) (by simp) ?b2 ?b3 (Nat.le_refl _) ?_)
  case b2 => rw [hz2]; omega
  case b3 => unfold maxLen; omega
  intro w1 hown hgrow
  go_wp2
  refine wp_loop_rounds 1 ?_
  rw [rounds_succ]
  go_wp2
  go_ret
  refine ⟨rfl, ⟨rfl, ?_⟩, (Kept.grown hgrow).mono (fun k hk h => by cases h)⟩
  rcases hown.2 with h | ⟨g, cap, cur, h1, h2, h3⟩
  · exact .inl h
  · exact .inr ⟨g, cap, cur, h1, Nat.zero_le _, h3.1, h3.2.1, h3.2.2.1, h3.2.2.2.1, by simp [cellsOf]⟩

theorem clone_nil (w : World) : Calls Try.prog 9 #[.slice none 0 0] w fun e w' => e = .returned (.slice none 0 0) ∧ w' = w := by
  have q22 : ∀ (w : World) (a : Option Addr) (n c n' c' : Nat), (binOp .eql 22 (.slice a n c) (.slice none n' c')).run Try.prog w = .ok (.bool a.isNone) w := fun w a n c n' c' => Lib.run_eql_slice_nil w _ _ a n c n' c' Try.underlying22
  go_enter Try.func9, Try.ntmps9
  go_wp2
  go_ret
  exact ⟨rfl, rfl⟩

/-- zzB1Clone: a row of its own, in a new block or nil. -/
theorem clone_any (v : Value) (l : List Int) (w : World) (h : In w v l) (hmax : l.length ≤ 1048576) :
    Calls Try.prog 9 #[v] w fun e w' => ∃ v', e = .returned v' ∧ Own w' v' l ∧ (v'.ownBlock = none ∨ v'.ownBlock = some w.heap.size) ∧ Kept (fun _ => False) w w' := by
  rcases h with ⟨rfl, rfl⟩ | ⟨x, c, rfl, hc⟩
  · refine (clone_nil w).mono ?_
    rintro e w' ⟨rfl, rfl⟩
    exact ⟨_, rfl, Own.nil _, .inl rfl, Kept.refl _ _⟩
  · by_cases h0 : l.length = 0
    · obtain rfl : l = [] := List.eq_nil_of_length_eq_zero h0
      refine (clone_empty x c w).mono ?_
      rintro e w' ⟨rfl, h1, h2⟩
      exact ⟨_, rfl, h1, .inr rfl, h2⟩
    · obtain ⟨b, off, rfl, hc'⟩ := ints_at hc (by omega)
      have hb : b < w.heap.size := block_lt_of_cell (hc' 0 (by omega))
      refine (clone_some b off l.length c l w rfl hmax hb hc').mono ?_
      rintro e w' ⟨rfl, h1, h2⟩
      exact ⟨_, rfl, h1, .inr rfl, h2⟩

theorem equal_len (a b : Option Addr) (n c m d : Nat) (w : World) (h : n ≠ m) : Calls Try.prog 14 #[.slice a n c, .slice b m d] w fun e w' => e = .returned (.bool false) ∧ w' = w := by
  have h' : ((n : Int) == (m : Int)) = false := by simp; omega
  go_enter Try.func14, Try.ntmps14
  go_wp2
  go_ret
  exact ⟨rfl, rfl⟩
theorem equal_zero (a b : Option Addr) (c d : Nat) (w : World) : Calls Try.prog 14 #[.slice a 0 c, .slice b 0 d] w fun e w' => e = .returned (.bool true) ∧ w' = w := by
  go_enter Try.func14, Try.ntmps14
  go_wp2
  refine wp_loop_rounds 1 ?_
  rw [rounds_succ]
  go_wp2
  go_ret
  exact ⟨rfl, rfl⟩

theorem ret_bool {a b : Bool} (h : a = b) : Ending.returned (.bool a) = .returned (.bool b) := by rw [h]

theorem equal_some (g o c g' o' c' n : Nat) (la lb : List Int) (w : World) (hn : la.length = n) (hm : lb.length = n) (hmax : n ≤ 70368744177664)
    (ha : ∀ i, i < n → w.cell? ⟨g, o + i, none⟩ = some (.int .u8 (la.getD i 0))) (hb : ∀ i, i < n → w.cell? ⟨g', o' + i, none⟩ = some (.int .u8 (lb.getD i 0))) :
    Calls Try.prog 14 #[.slice (some ⟨g, o, none⟩) n c, .slice (some ⟨g', o', none⟩) n c'] w fun e w' => e = .returned (.bool (decide (la = lb))) ∧ Kept (fun _ => False) w w' := by
  go_enter Try.func14, Try.ntmps14
  go_wp2
  go_loopw [5] (fun i wr => ∃ k : Nat, k ≤ n ∧ i = .int .i64 k ∧ la.take k = lb.take k ∧ ∃ q, wr = w.drewN q) (fun i _ => n - (intOf i).toNat)
  case atStart => exact ⟨0, Nat.zero_le _, rfl, by simp, 0, rfl⟩
  case round =>
    obtain ⟨k, hk, rfl, he, q, rfl⟩ := hrel
    have HE : Hid (la.take k = lb.take k) := he
    clear he
    by_cases hlt : k < n
    · have ha' := ha k hlt
      have hb' := hb k hlt
      have HA := hid_get la k (by omega)
      have HB := hid_get lb k (by omega)
      generalize la.getD k 0 = u at ha' HA
      generalize lb.getD k 0 = v at hb' HB
      clear ha hb
      go_wp2
      go_quiet (fail)
      by_cases huv : u = v
      · subst huv
        have h' : (u == u) = true := by simp
        go_wp2
        go_roundw
        case rel => exact ⟨k + 1, by omega, by go_num, take_step HE.out HA.out HB.out, _, rfl⟩
        case measure => simp [intOf]; omega
      · have h' : (u == v) = false := by simpa using huv
        go_wp2
        go_ret
        exact ⟨ret_bool (dec_ne HA.out HB.out huv).symm, ⟨rfl, rfl, rfl, Nat.le_refl _, fun _ _ _ => rfl⟩⟩
    · clear ha hb
      go_wp2
      go_ret
      obtain rfl : k = n := by omega
      exact ⟨ret_bool (dec_eq HE.out hn hm).symm, ⟨rfl, rfl, rfl, Nat.le_refl _, fun _ _ _ => rfl⟩⟩

/-- zzB1Equal: are the two lists the same? -/
theorem equal_any (va vb : Value) (la lb : List Int) (w : World) (ha : Rd w va la) (hb : Rd w vb lb) (hmax : la.length ≤ 70368744177664) :
    Calls Try.prog 14 #[va, vb] w fun e w' => e = .returned (.bool (decide (la = lb))) ∧ Kept (fun _ => False) w w' := by
  obtain ⟨ao, ca, rfl⟩ : ∃ a c, va = .slice a la.length c := by
    rcases ha with ⟨rfl, rfl⟩ | ⟨g, o, c, rfl, _⟩
    · exact ⟨_, _, rfl⟩
    · exact ⟨_, _, rfl⟩
  obtain ⟨bo, cb, rfl⟩ : ∃ a c, vb = .slice a lb.length c := by
    rcases hb with ⟨rfl, rfl⟩ | ⟨g, o, c, rfl, _⟩
    · exact ⟨_, _, rfl⟩
    · exact ⟨_, _, rfl⟩
  by_cases hl : la.length = lb.length
  · by_cases h0 : la.length = 0
    · obtain rfl : la = [] := List.eq_nil_of_length_eq_zero h0
      obtain rfl : lb = [] := List.eq_nil_of_length_eq_zero hl.symm
      refine (equal_zero ao bo ca cb w).mono ?_
      rintro e w' ⟨rfl, rfl⟩
      exact ⟨rfl, Kept.refl _ _⟩
    · rcases ha with ⟨h, rfl⟩ | ⟨g, o, c, h1, h2, h3, h4, h5⟩
      · exact absurd rfl h0
      · rcases hb with ⟨h, rfl⟩ | ⟨g', o', c', k1, k2, k3, k4, k5⟩
        · exact absurd hl h0
        · rw [h1, k1, ← hl]
          exact equal_some g o c g' o' c' la.length la lb w rfl hl.symm hmax h5 (by rw [hl]; exact k5)
  · refine (equal_len ao bo la.length ca lb.length cb w hl).mono ?_
    rintro e w' ⟨rfl, rfl⟩
    exact ⟨ret_bool (by rw [eq_comm, decide_eq_false_iff_not]; rintro rfl; exact hl rfl), Kept.refl _ _⟩
end Go.Proofs.Qxb6603725a
