/-
  THE WALKS, S: splitDecimal (27): PART 1.
-/
import Derived.Test.Qxb6603725aWalkS0
namespace Go.Proofs.Qxb6603725a
open Go.RowKit
set_option maxRecDepth 100000

set_option maxHeartbeats 800000 in
theorem sd_N0_X0 (g o n c i0 : Nat) (l : List Int) (w : World) (hrd : Rd w (.slice (some ⟨g, o, none⟩) n c) l) (hmax : n ≤ 1048576) (H0 : Hid (dEnd l 0 = i0)) (h0 : 1 ≤ i0) (hl0 : i0 = n) :
    Calls Try.prog 27 #[.slice (some ⟨g, o, none⟩) n c] w fun e w' => SplitOut l n i0 i0 i0 false e w' ∧ Kept (fun _ => False) w w' := by
  obtain ⟨hN, hnc, hcm, hg, hcell⟩ := rd_parts' hrd
  have HR : Hid (Rd w (.slice (some ⟨g, o, none⟩) n c) l) := hrd
  have HN : Hid (l.length = n) := hN
  have HCW : Hid (∀ (W : World), Kept (fun _ => False) w W → ∀ j, j < n → W.cell? ⟨g, o + j, none⟩ = some (.int .u8 (l.getD j 0))) := fun W hk j hj => by rw [hk.cell (p := ⟨g, o + j, none⟩) hg (fun h => h)]; exact hcell j hj
  clear hN hcell hrd
  subst hl0
  have q0 : ((i0 : Int) == 0) = false := by simp; omega
  have b1 : i0 ≤ c := by omega
  go_enter Try.func27, Try.ntmps27
  go_wp2_with fail
  refine (digitsEnd_at _ _ _ _ 0 i0 _ l _ rfl HN.out (by omega) (by omega) (HCW.out _ (Kept.alloc _ _ _)) H0).mono ?_
  rintro e w' ⟨rfl, rfl⟩
  go_wp2
  refine bodyPost_ret (v := .tuple #[.agg #[.slice (some ⟨g, o, none⟩) i0 c, .bool false, .slice none 0 0, .slice none 0 0], .bool true]) (by simp [results, Try.results27, go_sem]) rfl ⟨⟨_, _, _, ret_split (by simp) _, rd_whole HR.out (Kept.alloc _ _ _) (by omega), rd_none l _ _ (by omega), rd_none l _ _ (by omega)⟩, (Kept.alloc _ _ _)⟩

set_option maxHeartbeats 800000 in
theorem sd_N1_X1 (g o n c i0 : Nat) (l : List Int) (w : World) (hrd : Rd w (.slice (some ⟨g, o, none⟩) n c) l) (hmax : n ≤ 1048576) (H0 : Hid (dEnd l 0 = i0)) (h0 : 1 ≤ i0) (hl0 : i0 < n) (ch : Int) (hc1 : w.cell? ⟨g, o + i0, none⟩ = some (.int .u8 ch)) (n46 : (ch == 46) = false) (n101 : (ch == 101) = false) (n69 : (ch == 69) = false) :
    Calls Try.prog 27 #[.slice (some ⟨g, o, none⟩) n c] w fun e w' => SplitOut l n i0 i0 i0 false e w' ∧ Kept (fun _ => False) w w' := by
  obtain ⟨hN, hnc, hcm, hg, hcell⟩ := rd_parts' hrd
  have HR : Hid (Rd w (.slice (some ⟨g, o, none⟩) n c) l) := hrd
  have HN : Hid (l.length = n) := hN
  have HCW : Hid (∀ (W : World), Kept (fun _ => False) w W → ∀ j, j < n → W.cell? ⟨g, o + j, none⟩ = some (.int .u8 (l.getD j 0))) := fun W hk j hj => by rw [hk.cell (p := ⟨g, o + j, none⟩) hg (fun h => h)]; exact hcell j hj
  clear hN hcell hrd
  have q0 : ((i0 : Int) == 0) = false := by simp; omega
  have b1 : i0 ≤ c := by omega
  go_enter Try.func27, Try.ntmps27
  go_wp2_with fail
  refine (digitsEnd_at _ _ _ _ 0 i0 _ l _ rfl HN.out (by omega) (by omega) (HCW.out _ (Kept.alloc _ _ _)) H0).mono ?_
  rintro e w' ⟨rfl, rfl⟩
  go_wp2
  refine bodyPost_ret (v := .tuple #[.agg #[.slice (some ⟨g, o, none⟩) i0 c, .bool false, .slice none 0 0, .slice none 0 0], .bool (((i0 : Nat) : Int) == ((n : Nat) : Int))]) (by simp [results, Try.results27, go_sem]) rfl ⟨⟨_, _, _, ret_split (int_dec _ _) _, rd_whole HR.out (Kept.alloc _ _ _) (by omega), rd_none l _ _ (by omega), rd_none l _ _ (by omega)⟩, (Kept.alloc _ _ _)⟩

set_option maxHeartbeats 800000 in
theorem sd_PT_X0_c (g o n c i0 i1 : Nat) (l : List Int) (w : World) (hrd : Rd w (.slice (some ⟨g, o, none⟩) n c) l) (hmax : n ≤ 1048576) (H0 : Hid (dEnd l 0 = i0)) (h0 : 1 ≤ i0) (hl0 : i0 < n) (hc0 : w.cell? ⟨g, o + i0, none⟩ = some (.int .u8 46)) (H1 : Hid (dEnd l (i0 + 1) = i1)) (h1 : i0 + 1 ≤ i1) (hl1 : i1 = n) (hce : c = i0 + 1) :
    Calls Try.prog 27 #[.slice (some ⟨g, o, none⟩) n c] w fun e w' => SplitOut l n i0 i1 i1 true e w' ∧ Kept (fun _ => False) w w' := by
  obtain ⟨hN, hnc, hcm, hg, hcell⟩ := rd_parts' hrd
  have HR : Hid (Rd w (.slice (some ⟨g, o, none⟩) n c) l) := hrd
  have HN : Hid (l.length = n) := hN
  have HCW : Hid (∀ (W : World), Kept (fun _ => False) w W → ∀ j, j < n → W.cell? ⟨g, o + j, none⟩ = some (.int .u8 (l.getD j 0))) := fun W hk j hj => by rw [hk.cell (p := ⟨g, o + j, none⟩) hg (fun h => h)]; exact hcell j hj
  clear hN hcell hrd
  subst hl1
  have q0 : ((i0 : Int) == 0) = false := by simp; omega
  have b1 : i0 ≤ c := by omega
  have b2 : i1 ≤ c := by omega
  go_enter Try.func27, Try.ntmps27
  go_wp2_with fail
  refine (digitsEnd_at _ _ _ _ 0 i0 _ l _ rfl HN.out (by omega) (by omega) (HCW.out _ (Kept.alloc _ _ _)) H0).mono ?_
  rintro e w' ⟨rfl, rfl⟩
  go_wp2_with fail
  refine (digitsEnd_at _ _ _ _ (i0 + 1) i1 _ l _ (by omega) HN.out (by omega) (by omega) (HCW.out _ (Kept.alloc _ _ _)) H1).mono ?_
  rintro e w' ⟨rfl, rfl⟩
  go_wp2_with fail
  go_region
  go_wp2
  refine bodyPost_ret (v := .tuple #[.agg #[.slice (some ⟨g, o, none⟩) i0 c, .bool true, .slice (some ⟨g, o, none⟩) (i1 - (i0 + 1)) (c - (i0 + 1)), .slice none 0 0], .bool true]) (by simp [results, Try.results27, go_sem]; omega) rfl ⟨⟨_, _, _, ret_split (by simp) _, rd_whole HR.out ((Kept.alloc _ _ _).trans (Kept.drew _ (fun _ => False)) (fun _ _ h => h) (fun _ _ h => h)) (by omega), rd_part' HR.out ((Kept.alloc _ _ _).trans (Kept.drew _ (fun _ => False)) (fun _ _ h => h) (fun _ _ h => h)) (i0 + 1) i1 (by omega) (by omega) hce, rd_none l _ _ (by omega)⟩, ((Kept.alloc _ _ _).trans (Kept.drew _ (fun _ => False)) (fun _ _ h => h) (fun _ _ h => h))⟩

set_option maxHeartbeats 800000 in
theorem sd_PT_X0_d (g o n c i0 i1 : Nat) (l : List Int) (w : World) (hrd : Rd w (.slice (some ⟨g, o, none⟩) n c) l) (hmax : n ≤ 1048576) (H0 : Hid (dEnd l 0 = i0)) (h0 : 1 ≤ i0) (hl0 : i0 < n) (hc0 : w.cell? ⟨g, o + i0, none⟩ = some (.int .u8 46)) (H1 : Hid (dEnd l (i0 + 1) = i1)) (h1 : i0 + 1 ≤ i1) (hl1 : i1 = n) (hce : ¬ c = i0 + 1) :
    Calls Try.prog 27 #[.slice (some ⟨g, o, none⟩) n c] w fun e w' => SplitOut l n i0 i1 i1 true e w' ∧ Kept (fun _ => False) w w' := by
  obtain ⟨hN, hnc, hcm, hg, hcell⟩ := rd_parts' hrd
  have HR : Hid (Rd w (.slice (some ⟨g, o, none⟩) n c) l) := hrd
  have HN : Hid (l.length = n) := hN
  have HCW : Hid (∀ (W : World), Kept (fun _ => False) w W → ∀ j, j < n → W.cell? ⟨g, o + j, none⟩ = some (.int .u8 (l.getD j 0))) := fun W hk j hj => by rw [hk.cell (p := ⟨g, o + j, none⟩) hg (fun h => h)]; exact hcell j hj
  clear hN hcell hrd
  subst hl1
  have q0 : ((i0 : Int) == 0) = false := by simp; omega
  have b1 : i0 ≤ c := by omega
  have b2 : i1 ≤ c := by omega
  go_enter Try.func27, Try.ntmps27
  go_wp2_with fail
  refine (digitsEnd_at _ _ _ _ 0 i0 _ l _ rfl HN.out (by omega) (by omega) (HCW.out _ (Kept.alloc _ _ _)) H0).mono ?_
  rintro e w' ⟨rfl, rfl⟩
  go_wp2_with fail
  refine (digitsEnd_at _ _ _ _ (i0 + 1) i1 _ l _ (by omega) HN.out (by omega) (by omega) (HCW.out _ (Kept.alloc _ _ _)) H1).mono ?_
  rintro e w' ⟨rfl, rfl⟩
  go_wp2_with fail
  go_region
  go_wp2
  refine bodyPost_ret (v := .tuple #[.agg #[.slice (some ⟨g, o, none⟩) i0 c, .bool true, .slice (some ⟨g, o + (i0 + 1), none⟩) (i1 - (i0 + 1)) (c - (i0 + 1)), .slice none 0 0], .bool true]) (by simp [results, Try.results27, go_sem]) rfl ⟨⟨_, _, _, ret_split (by simp) _, rd_whole HR.out ((Kept.alloc _ _ _).trans (Kept.drew _ (fun _ => False)) (fun _ _ h => h) (fun _ _ h => h)) (by omega), rd_part HR.out ((Kept.alloc _ _ _).trans (Kept.drew _ (fun _ => False)) (fun _ _ h => h) (fun _ _ h => h)) (i0 + 1) i1 (by omega) (by omega) (by omega), rd_none l _ _ (by omega)⟩, ((Kept.alloc _ _ _).trans (Kept.drew _ (fun _ => False)) (fun _ _ h => h) (fun _ _ h => h))⟩

set_option maxHeartbeats 800000 in
theorem sd_PT_X1 (g o n c i0 i1 : Nat) (l : List Int) (w : World) (hrd : Rd w (.slice (some ⟨g, o, none⟩) n c) l) (hmax : n ≤ 1048576) (H0 : Hid (dEnd l 0 = i0)) (h0 : 1 ≤ i0) (hl0 : i0 < n) (hc0 : w.cell? ⟨g, o + i0, none⟩ = some (.int .u8 46)) (H1 : Hid (dEnd l (i0 + 1) = i1)) (h1 : i0 + 1 ≤ i1) (hl1 : i1 < n) (ch : Int) (hc1 : w.cell? ⟨g, o + i1, none⟩ = some (.int .u8 ch)) (n101 : (ch == 101) = false) (n69 : (ch == 69) = false) :
    Calls Try.prog 27 #[.slice (some ⟨g, o, none⟩) n c] w fun e w' => SplitOut l n i0 i1 i1 true e w' ∧ Kept (fun _ => False) w w' := by
  obtain ⟨hN, hnc, hcm, hg, hcell⟩ := rd_parts' hrd
  have HR : Hid (Rd w (.slice (some ⟨g, o, none⟩) n c) l) := hrd
  have HN : Hid (l.length = n) := hN
  have HCW : Hid (∀ (W : World), Kept (fun _ => False) w W → ∀ j, j < n → W.cell? ⟨g, o + j, none⟩ = some (.int .u8 (l.getD j 0))) := fun W hk j hj => by rw [hk.cell (p := ⟨g, o + j, none⟩) hg (fun h => h)]; exact hcell j hj
  clear hN hcell hrd
  have q0 : ((i0 : Int) == 0) = false := by simp; omega
  have b1 : i0 ≤ c := by omega
  have b2 : i1 ≤ c := by omega
  go_enter Try.func27, Try.ntmps27
  go_wp2_with fail
  refine (digitsEnd_at _ _ _ _ 0 i0 _ l _ rfl HN.out (by omega) (by omega) (HCW.out _ (Kept.alloc _ _ _)) H0).mono ?_
  rintro e w' ⟨rfl, rfl⟩
  go_wp2_with fail
  refine (digitsEnd_at _ _ _ _ (i0 + 1) i1 _ l _ (by omega) HN.out (by omega) (by omega) (HCW.out _ (Kept.alloc _ _ _)) H1).mono ?_
  rintro e w' ⟨rfl, rfl⟩
  go_wp2_with fail
  go_region
  go_wp2
  refine bodyPost_ret (v := .tuple #[.agg #[.slice (some ⟨g, o, none⟩) i0 c, .bool true, .slice (some ⟨g, o + (i0 + 1), none⟩) (i1 - (i0 + 1)) (c - (i0 + 1)), .slice none 0 0], .bool (((i1 : Nat) : Int) == ((n : Nat) : Int))]) (by simp [results, Try.results27, go_sem]) rfl ⟨⟨_, _, _, ret_split (int_dec _ _) _, rd_whole HR.out ((Kept.alloc _ _ _).trans (Kept.drew _ (fun _ => False)) (fun _ _ h => h) (fun _ _ h => h)) (by omega), rd_part HR.out ((Kept.alloc _ _ _).trans (Kept.drew _ (fun _ => False)) (fun _ _ h => h) (fun _ _ h => h)) (i0 + 1) i1 (by omega) (by omega) (by omega), rd_none l _ _ (by omega)⟩, ((Kept.alloc _ _ _).trans (Kept.drew _ (fun _ => False)) (fun _ _ h => h) (fun _ _ h => h))⟩
end Go.Proofs.Qxb6603725a
