/-
  THE WALKS, S: splitDecimal (27): PART 0.
-/
import Derived.Test.Qxb6603725aWalkD
import Derived.RegionTactic
namespace Go.Proofs.Qxb6603725a
open Go.RowKit
set_option maxRecDepth 100000

theorem digitsEnd_at (g o n c i r : Nat) (x : Int) (l : List Int) (w : World) (hx : x = (i : Int)) (hn : l.length = n) (hmax : n ≤ 1048576) (hi : i ≤ n) (hcell : ∀ j, j < n → w.cell? ⟨g, o + j, none⟩ = some (.int .u8 (l.getD j 0))) (hr : Hid (dEnd l i = r)) :
    Calls Try.prog 30 #[.slice (some ⟨g, o, none⟩) n c, .int .i64 x] w fun e w' => e = .returned (.int .i64 r) ∧ w = w' := by
  rw [hx, ← hr.out]
  exact digitsEnd_some g o n c i l w hn hmax hi hcell

theorem rd_parts' {w : World} {g o n c : Nat} {l : List Int} (h : Rd w (.slice (some ⟨g, o, none⟩) n c) l) :
    l.length = n ∧ n ≤ c ∧ c ≤ maxLen ∧ g < w.heap.size ∧ ∀ i, i < n → w.cell? ⟨g, o + i, none⟩ = some (.int .u8 (l.getD i 0)) := by
  rcases h with ⟨h, _⟩ | ⟨g', o', c', h, h1, h2, h3, h4⟩
  · cases h
  · cases h; exact ⟨rfl, h1, h2, h3, h4⟩

/-- What splitDecimal hands back where it hands back nothing. -/
def zeroOut : Ending := .returned (.tuple #[.agg #[.slice none 0 0, .bool false, .slice none 0 0, .slice none 0 0], .bool false])

/-- What it hands back else: whole, point, fraction, exponent; is it all of the text? -/
def SplitOut (l : List Int) (n i0 i1 p : Nat) (pt : Bool) (e : Ending) (w' : World) : Prop :=
  ∃ W F E, e = .returned (.tuple #[.agg #[W, .bool pt, F, E], .bool (decide (p = n))]) ∧ Rd w' W (l.take i0) ∧ Rd w' F ((l.take i1).drop (i0 + 1)) ∧ Rd w' E ((l.take p).drop (i1 + 1))

theorem ret_split {W F E : Value} {a : Bool} {p n : Nat} (h : a = decide (p = n)) (pt : Bool) : Ending.returned (.tuple #[.agg #[W, .bool pt, F, E], .bool a]) = .returned (.tuple #[.agg #[W, .bool pt, F, E], .bool (decide (p = n))]) := by rw [h]
theorem int_dec (p n : Nat) : (((p : Int) == (n : Int))) = decide (p = n) := by
  rw [Bool.eq_iff_iff]; simp; omega

theorem rd_whole {w w' : World} {g o n c i0 : Nat} {l : List Int} (h : Rd w (.slice (some ⟨g, o, none⟩) n c) l) (hk : Kept (fun _ => False) w w') (h0 : i0 ≤ n) : Rd w' (.slice (some ⟨g, o, none⟩) i0 c) (l.take i0) :=
  (h.cut 0 i0 (Nat.zero_le _) h0 _ (by simp)).kept hk (fun _ _ h => h)
theorem rd_none {w' : World} (l : List Int) (i j : Nat) (h : i ≤ j) : Rd w' (.slice none 0 0) ((l.take i).drop j) := by
  rw [List.drop_eq_nil_of_le (by rw [List.length_take]; omega)]
  exact .inl ⟨rfl, rfl⟩
theorem rd_part {w w' : World} {g o n c : Nat} {l : List Int} (h : Rd w (.slice (some ⟨g, o, none⟩) n c) l) (hk : Kept (fun _ => False) w w') (lo hi : Nat) (h1 : lo ≤ hi) (h2 : hi ≤ n) (h3 : ¬ c = lo) :
    Rd w' (.slice (some ⟨g, o + lo, none⟩) (hi - lo) (c - lo)) ((l.take hi).drop lo) :=
  (h.cut lo hi h1 h2 _ (by rw [if_neg h3])).kept hk (fun _ _ h => h)
theorem rd_part' {w w' : World} {g o n c : Nat} {l : List Int} (h : Rd w (.slice (some ⟨g, o, none⟩) n c) l) (hk : Kept (fun _ => False) w w') (lo hi : Nat) (h1 : lo ≤ hi) (h2 : hi ≤ n) (h3 : c = lo) :
    Rd w' (.slice (some ⟨g, o, none⟩) (hi - lo) (c - lo)) ((l.take hi).drop lo) :=
  (h.cut lo hi h1 h2 _ (by rw [if_pos h3])).kept hk (fun _ _ h => h)

theorem sd_empty (a : Option Addr) (c : Nat) (w : World) : Calls Try.prog 27 #[.slice a 0 c] w fun e w' => e = zeroOut ∧ Kept (fun _ => False) w w' := by
  go_enter Try.func27, Try.ntmps27
  go_wp2_with (go_at_call 30; refine (digitsEnd_zero _ _ _).mono ?_; rintro e w' ⟨rfl, rfl⟩)
  exact bodyPost_ret (v := .tuple #[.agg #[.slice none 0 0, .bool false, .slice none 0 0, .slice none 0 0], .bool false]) (by simp [results, Try.results27, go_sem]) rfl ⟨rfl, Kept.alloc _ _ _⟩

theorem sd_nodigit (g o n c : Nat) (l : List Int) (w : World) (hrd : Rd w (.slice (some ⟨g, o, none⟩) n c) l) (hmax : n ≤ 1048576) (H0 : Hid (dEnd l 0 = 0)) :
    Calls Try.prog 27 #[.slice (some ⟨g, o, none⟩) n c] w fun e w' => e = zeroOut ∧ Kept (fun _ => False) w w' := by
  obtain ⟨hN, hnc, hcm, hg, hcell⟩ := rd_parts' hrd
  have HN : Hid (l.length = n) := hN
  have HCW : Hid (∀ (W : World), Kept (fun _ => False) w W → ∀ j, j < n → W.cell? ⟨g, o + j, none⟩ = some (.int .u8 (l.getD j 0))) := fun W hk j hj => by rw [hk.cell (p := ⟨g, o + j, none⟩) hg (fun h => h)]; exact hcell j hj
  clear hN hcell
  go_enter Try.func27, Try.ntmps27
  go_wp2_with fail
  refine (digitsEnd_at _ _ _ _ 0 0 _ l _ rfl HN.out (by omega) (by omega) (HCW.out _ (Kept.alloc _ _ _)) H0).mono ?_
  rintro e w' ⟨rfl, rfl⟩
  go_wp2
  exact bodyPost_ret (v := .tuple #[.agg #[.slice none 0 0, .bool false, .slice none 0 0, .slice none 0 0], .bool false]) (by simp [results, Try.results27, go_sem]) rfl ⟨rfl, Kept.alloc _ _ _⟩
end Go.Proofs.Qxb6603725a
