/-
  THE WALKS, S: splitDecimal (27): PART 2.
-/
import Derived.Test.Qxb6603725aWalkS0
namespace Go.Proofs.Qxb6603725a
open Go.RowKit
set_option maxRecDepth 100000

set_option maxHeartbeats 800000 in
theorem sd_N1_e_S0i (g o n c i0 e2 : Nat) (l : List Int) (w : World) (hrd : Rd w (.slice (some ⟨g, o, none⟩) n c) l) (hmax : n ≤ 1048576) (H0 : Hid (dEnd l 0 = i0)) (h0 : 1 ≤ i0) (hl0 : i0 < n) (hc1 : w.cell? ⟨g, o + i0, none⟩ = some (.int .u8 101)) (hl2 : i0 + 1 = n) (H2 : Hid (dEnd l (i0 + 1) = e2)) (h2 : e2 = i0 + 1) :
    Calls Try.prog 27 #[.slice (some ⟨g, o, none⟩) n c] w fun e w' => e = zeroOut ∧ Kept (fun _ => False) w w' := by
  obtain ⟨hN, hnc, hcm, hg, hcell⟩ := rd_parts' hrd
  have HR : Hid (Rd w (.slice (some ⟨g, o, none⟩) n c) l) := hrd
  have HN : Hid (l.length = n) := hN
  have HCW : Hid (∀ (W : World), Kept (fun _ => False) w W → ∀ j, j < n → W.cell? ⟨g, o + j, none⟩ = some (.int .u8 (l.getD j 0))) := fun W hk j hj => by rw [hk.cell (p := ⟨g, o + j, none⟩) hg (fun h => h)]; exact hcell j hj
  clear hN hcell hrd
  subst hl2
  have h2a : e2 ≤ i0 + 1 := by omega
  have h2b : i0 + 1 ≤ e2 := by omega
  have q2 : ((e2 : Int) == (i0 : Int) + 1) = true := by simp; omega
  clear h2
  have q0 : ((i0 : Int) == 0) = false := by simp; omega
  have b1 : i0 ≤ c := by omega
  go_enter Try.func27, Try.ntmps27
  go_wp2_with fail
  refine (digitsEnd_at _ _ _ _ 0 i0 _ l _ rfl HN.out (by omega) (by omega) (HCW.out _ (Kept.alloc _ _ _)) H0).mono ?_
  rintro e w' ⟨rfl, rfl⟩
  go_wp2_with fail
  refine (digitsEnd_at _ _ _ _ (i0 + 1) e2 _ l _ (by omega) HN.out (by omega) (by omega) (HCW.out _ (Kept.alloc _ _ _)) H2).mono ?_
  rintro e w' ⟨rfl, rfl⟩
  go_wp2
  exact bodyPost_ret (v := .tuple #[.agg #[.slice none 0 0, .bool false, .slice none 0 0, .slice none 0 0], .bool false]) (by simp [results, Try.results27, go_sem]) rfl ⟨rfl, (Kept.alloc _ _ _)⟩

set_option maxHeartbeats 800000 in
theorem sd_N1_e_S1v (g o n c i0 e2 : Nat) (l : List Int) (w : World) (hrd : Rd w (.slice (some ⟨g, o, none⟩) n c) l) (hmax : n ≤ 1048576) (H0 : Hid (dEnd l 0 = i0)) (h0 : 1 ≤ i0) (hl0 : i0 < n) (hc1 : w.cell? ⟨g, o + i0, none⟩ = some (.int .u8 101)) (hl2 : i0 + 1 < n) (hc2 : w.cell? ⟨g, o + (i0 + 1), none⟩ = some (.int .u8 43)) (H2 : Hid (dEnd l (i0 + 2) = e2)) (h2 : i0 + 2 < e2) (hl3 : e2 ≤ n) :
    Calls Try.prog 27 #[.slice (some ⟨g, o, none⟩) n c] w fun e w' => SplitOut l n i0 i0 e2 false e w' ∧ Kept (fun _ => False) w w' := by
  obtain ⟨hN, hnc, hcm, hg, hcell⟩ := rd_parts' hrd
  have HR : Hid (Rd w (.slice (some ⟨g, o, none⟩) n c) l) := hrd
  have HN : Hid (l.length = n) := hN
  have HCW : Hid (∀ (W : World), Kept (fun _ => False) w W → ∀ j, j < n → W.cell? ⟨g, o + j, none⟩ = some (.int .u8 (l.getD j 0))) := fun W hk j hj => by rw [hk.cell (p := ⟨g, o + j, none⟩) hg (fun h => h)]; exact hcell j hj
  clear hN hcell hrd
  have q2 : ((e2 : Int) == (i0 : Int) + 1 + 1) = false := by simp; omega
  have b3 : e2 ≤ c := by omega
  have q0 : ((i0 : Int) == 0) = false := by simp; omega
  have b1 : i0 ≤ c := by omega
  go_enter Try.func27, Try.ntmps27
  go_wp2_with fail
  refine (digitsEnd_at _ _ _ _ 0 i0 _ l _ rfl HN.out (by omega) (by omega) (HCW.out _ (Kept.alloc _ _ _)) H0).mono ?_
  rintro e w' ⟨rfl, rfl⟩
  go_wp2_with fail
  refine (digitsEnd_at _ _ _ _ (i0 + 2) e2 _ l _ (by omega) HN.out (by omega) (by omega) (HCW.out _ (Kept.alloc _ _ _)) H2).mono ?_
  rintro e w' ⟨rfl, rfl⟩
  go_wp2
  refine bodyPost_ret (v := .tuple #[.agg #[.slice (some ⟨g, o, none⟩) i0 c, .bool false, .slice none 0 0, .slice (some ⟨g, o + (i0 + 1), none⟩) (e2 - (i0 + 1)) (c - (i0 + 1))], .bool (((e2 : Nat) : Int) == ((n : Nat) : Int))]) (by simp [results, Try.results27, go_sem]) rfl ⟨⟨_, _, _, ret_split (int_dec _ _) _, rd_whole HR.out (Kept.alloc _ _ _) (by omega), rd_none l _ _ (by omega), rd_part HR.out (Kept.alloc _ _ _) (i0 + 1) e2 (by omega) (by omega) (by omega)⟩, (Kept.alloc _ _ _)⟩

set_option maxHeartbeats 800000 in
theorem sd_N1_e_S1i (g o n c i0 e2 : Nat) (l : List Int) (w : World) (hrd : Rd w (.slice (some ⟨g, o, none⟩) n c) l) (hmax : n ≤ 1048576) (H0 : Hid (dEnd l 0 = i0)) (h0 : 1 ≤ i0) (hl0 : i0 < n) (hc1 : w.cell? ⟨g, o + i0, none⟩ = some (.int .u8 101)) (hl2 : i0 + 1 < n) (hc2 : w.cell? ⟨g, o + (i0 + 1), none⟩ = some (.int .u8 43)) (H2 : Hid (dEnd l (i0 + 2) = e2)) (h2 : e2 = i0 + 2) :
    Calls Try.prog 27 #[.slice (some ⟨g, o, none⟩) n c] w fun e w' => e = zeroOut ∧ Kept (fun _ => False) w w' := by
  obtain ⟨hN, hnc, hcm, hg, hcell⟩ := rd_parts' hrd
  have HR : Hid (Rd w (.slice (some ⟨g, o, none⟩) n c) l) := hrd
  have HN : Hid (l.length = n) := hN
  have HCW : Hid (∀ (W : World), Kept (fun _ => False) w W → ∀ j, j < n → W.cell? ⟨g, o + j, none⟩ = some (.int .u8 (l.getD j 0))) := fun W hk j hj => by rw [hk.cell (p := ⟨g, o + j, none⟩) hg (fun h => h)]; exact hcell j hj
  clear hN hcell hrd
  have h2a : e2 ≤ i0 + 2 := by omega
  have h2b : i0 + 2 ≤ e2 := by omega
  have q2 : ((e2 : Int) == (i0 : Int) + 1 + 1) = true := by simp; omega
  clear h2
  have q0 : ((i0 : Int) == 0) = false := by simp; omega
  have b1 : i0 ≤ c := by omega
  go_enter Try.func27, Try.ntmps27
  go_wp2_with fail
  refine (digitsEnd_at _ _ _ _ 0 i0 _ l _ rfl HN.out (by omega) (by omega) (HCW.out _ (Kept.alloc _ _ _)) H0).mono ?_
  rintro e w' ⟨rfl, rfl⟩
  go_wp2_with fail
  refine (digitsEnd_at _ _ _ _ (i0 + 2) e2 _ l _ (by omega) HN.out (by omega) (by omega) (HCW.out _ (Kept.alloc _ _ _)) H2).mono ?_
  rintro e w' ⟨rfl, rfl⟩
  go_wp2
  exact bodyPost_ret (v := .tuple #[.agg #[.slice none 0 0, .bool false, .slice none 0 0, .slice none 0 0], .bool false]) (by simp [results, Try.results27, go_sem]) rfl ⟨rfl, (Kept.alloc _ _ _)⟩

set_option maxHeartbeats 800000 in
theorem sd_N1_e_S2v (g o n c i0 e2 : Nat) (l : List Int) (w : World) (hrd : Rd w (.slice (some ⟨g, o, none⟩) n c) l) (hmax : n ≤ 1048576) (H0 : Hid (dEnd l 0 = i0)) (h0 : 1 ≤ i0) (hl0 : i0 < n) (hc1 : w.cell? ⟨g, o + i0, none⟩ = some (.int .u8 101)) (hl2 : i0 + 1 < n) (hc2 : w.cell? ⟨g, o + (i0 + 1), none⟩ = some (.int .u8 45)) (H2 : Hid (dEnd l (i0 + 2) = e2)) (h2 : i0 + 2 < e2) (hl3 : e2 ≤ n) :
    Calls Try.prog 27 #[.slice (some ⟨g, o, none⟩) n c] w fun e w' => SplitOut l n i0 i0 e2 false e w' ∧ Kept (fun _ => False) w w' := by
  obtain ⟨hN, hnc, hcm, hg, hcell⟩ := rd_parts' hrd
  have HR : Hid (Rd w (.slice (some ⟨g, o, none⟩) n c) l) := hrd
  have HN : Hid (l.length = n) := hN
  have HCW : Hid (∀ (W : World), Kept (fun _ => False) w W → ∀ j, j < n → W.cell? ⟨g, o + j, none⟩ = some (.int .u8 (l.getD j 0))) := fun W hk j hj => by rw [hk.cell (p := ⟨g, o + j, none⟩) hg (fun h => h)]; exact hcell j hj
  clear hN hcell hrd
  have q2 : ((e2 : Int) == (i0 : Int) + 1 + 1) = false := by simp; omega
  have b3 : e2 ≤ c := by omega
  have q0 : ((i0 : Int) == 0) = false := by simp; omega
  have b1 : i0 ≤ c := by omega
  go_enter Try.func27, Try.ntmps27
  go_wp2_with fail
  refine (digitsEnd_at _ _ _ _ 0 i0 _ l _ rfl HN.out (by omega) (by omega) (HCW.out _ (Kept.alloc _ _ _)) H0).mono ?_
  rintro e w' ⟨rfl, rfl⟩
  go_wp2_with fail
  refine (digitsEnd_at _ _ _ _ (i0 + 2) e2 _ l _ (by omega) HN.out (by omega) (by omega) (HCW.out _ (Kept.alloc _ _ _)) H2).mono ?_
  rintro e w' ⟨rfl, rfl⟩
  go_wp2
  refine bodyPost_ret (v := .tuple #[.agg #[.slice (some ⟨g, o, none⟩) i0 c, .bool false, .slice none 0 0, .slice (some ⟨g, o + (i0 + 1), none⟩) (e2 - (i0 + 1)) (c - (i0 + 1))], .bool (((e2 : Nat) : Int) == ((n : Nat) : Int))]) (by simp [results, Try.results27, go_sem]) rfl ⟨⟨_, _, _, ret_split (int_dec _ _) _, rd_whole HR.out (Kept.alloc _ _ _) (by omega), rd_none l _ _ (by omega), rd_part HR.out (Kept.alloc _ _ _) (i0 + 1) e2 (by omega) (by omega) (by omega)⟩, (Kept.alloc _ _ _)⟩

set_option maxHeartbeats 800000 in
theorem sd_N1_e_S2i (g o n c i0 e2 : Nat) (l : List Int) (w : World) (hrd : Rd w (.slice (some ⟨g, o, none⟩) n c) l) (hmax : n ≤ 1048576) (H0 : Hid (dEnd l 0 = i0)) (h0 : 1 ≤ i0) (hl0 : i0 < n) (hc1 : w.cell? ⟨g, o + i0, none⟩ = some (.int .u8 101)) (hl2 : i0 + 1 < n) (hc2 : w.cell? ⟨g, o + (i0 + 1), none⟩ = some (.int .u8 45)) (H2 : Hid (dEnd l (i0 + 2) = e2)) (h2 : e2 = i0 + 2) :
    Calls Try.prog 27 #[.slice (some ⟨g, o, none⟩) n c] w fun e w' => e = zeroOut ∧ Kept (fun _ => False) w w' := by
  obtain ⟨hN, hnc, hcm, hg, hcell⟩ := rd_parts' hrd
  have HR : Hid (Rd w (.slice (some ⟨g, o, none⟩) n c) l) := hrd
  have HN : Hid (l.length = n) := hN
  have HCW : Hid (∀ (W : World), Kept (fun _ => False) w W → ∀ j, j < n → W.cell? ⟨g, o + j, none⟩ = some (.int .u8 (l.getD j 0))) := fun W hk j hj => by rw [hk.cell (p := ⟨g, o + j, none⟩) hg (fun h => h)]; exact hcell j hj
  clear hN hcell hrd
  have h2a : e2 ≤ i0 + 2 := by omega
  have h2b : i0 + 2 ≤ e2 := by omega
  have q2 : ((e2 : Int) == (i0 : Int) + 1 + 1) = true := by simp; omega
  clear h2
  have q0 : ((i0 : Int) == 0) = false := by simp; omega
  have b1 : i0 ≤ c := by omega
  go_enter Try.func27, Try.ntmps27
  go_wp2_with fail
  refine (digitsEnd_at _ _ _ _ 0 i0 _ l _ rfl HN.out (by omega) (by omega) (HCW.out _ (Kept.alloc _ _ _)) H0).mono ?_
  rintro e w' ⟨rfl, rfl⟩
  go_wp2_with fail
  refine (digitsEnd_at _ _ _ _ (i0 + 2) e2 _ l _ (by omega) HN.out (by omega) (by omega) (HCW.out _ (Kept.alloc _ _ _)) H2).mono ?_
  rintro e w' ⟨rfl, rfl⟩
  go_wp2
  exact bodyPost_ret (v := .tuple #[.agg #[.slice none 0 0, .bool false, .slice none 0 0, .slice none 0 0], .bool false]) (by simp [results, Try.results27, go_sem]) rfl ⟨rfl, (Kept.alloc _ _ _)⟩

set_option maxHeartbeats 800000 in
theorem sd_N1_e_S3v (g o n c i0 e2 : Nat) (l : List Int) (w : World) (hrd : Rd w (.slice (some ⟨g, o, none⟩) n c) l) (hmax : n ≤ 1048576) (H0 : Hid (dEnd l 0 = i0)) (h0 : 1 ≤ i0) (hl0 : i0 < n) (hc1 : w.cell? ⟨g, o + i0, none⟩ = some (.int .u8 101)) (hl2 : i0 + 1 < n) (c2 : Int) (hc2 : w.cell? ⟨g, o + (i0 + 1), none⟩ = some (.int .u8 c2)) (n43 : (c2 == 43) = false) (n45 : (c2 == 45) = false) (H2 : Hid (dEnd l (i0 + 1) = e2)) (h2 : i0 + 1 < e2) (hl3 : e2 ≤ n) :
    Calls Try.prog 27 #[.slice (some ⟨g, o, none⟩) n c] w fun e w' => SplitOut l n i0 i0 e2 false e w' ∧ Kept (fun _ => False) w w' := by
  obtain ⟨hN, hnc, hcm, hg, hcell⟩ := rd_parts' hrd
  have HR : Hid (Rd w (.slice (some ⟨g, o, none⟩) n c) l) := hrd
  have HN : Hid (l.length = n) := hN
  have HCW : Hid (∀ (W : World), Kept (fun _ => False) w W → ∀ j, j < n → W.cell? ⟨g, o + j, none⟩ = some (.int .u8 (l.getD j 0))) := fun W hk j hj => by rw [hk.cell (p := ⟨g, o + j, none⟩) hg (fun h => h)]; exact hcell j hj
  clear hN hcell hrd
  have q2 : ((e2 : Int) == (i0 : Int) + 1) = false := by simp; omega
  have b3 : e2 ≤ c := by omega
  have q0 : ((i0 : Int) == 0) = false := by simp; omega
  have b1 : i0 ≤ c := by omega
  go_enter Try.func27, Try.ntmps27
  go_wp2_with fail
  refine (digitsEnd_at _ _ _ _ 0 i0 _ l _ rfl HN.out (by omega) (by omega) (HCW.out _ (Kept.alloc _ _ _)) H0).mono ?_
  rintro e w' ⟨rfl, rfl⟩
  go_wp2_with fail
  refine (digitsEnd_at _ _ _ _ (i0 + 1) e2 _ l _ (by omega) HN.out (by omega) (by omega) (HCW.out _ (Kept.alloc _ _ _)) H2).mono ?_
  rintro e w' ⟨rfl, rfl⟩
  go_wp2
  refine bodyPost_ret (v := .tuple #[.agg #[.slice (some ⟨g, o, none⟩) i0 c, .bool false, .slice none 0 0, .slice (some ⟨g, o + (i0 + 1), none⟩) (e2 - (i0 + 1)) (c - (i0 + 1))], .bool (((e2 : Nat) : Int) == ((n : Nat) : Int))]) (by simp [results, Try.results27, go_sem]) rfl ⟨⟨_, _, _, ret_split (int_dec _ _) _, rd_whole HR.out (Kept.alloc _ _ _) (by omega), rd_none l _ _ (by omega), rd_part HR.out (Kept.alloc _ _ _) (i0 + 1) e2 (by omega) (by omega) (by omega)⟩, (Kept.alloc _ _ _)⟩

set_option maxHeartbeats 800000 in
theorem sd_N1_e_S3i (g o n c i0 e2 : Nat) (l : List Int) (w : World) (hrd : Rd w (.slice (some ⟨g, o, none⟩) n c) l) (hmax : n ≤ 1048576) (H0 : Hid (dEnd l 0 = i0)) (h0 : 1 ≤ i0) (hl0 : i0 < n) (hc1 : w.cell? ⟨g, o + i0, none⟩ = some (.int .u8 101)) (hl2 : i0 + 1 < n) (c2 : Int) (hc2 : w.cell? ⟨g, o + (i0 + 1), none⟩ = some (.int .u8 c2)) (n43 : (c2 == 43) = false) (n45 : (c2 == 45) = false) (H2 : Hid (dEnd l (i0 + 1) = e2)) (h2 : e2 = i0 + 1) :
    Calls Try.prog 27 #[.slice (some ⟨g, o, none⟩) n c] w fun e w' => e = zeroOut ∧ Kept (fun _ => False) w w' := by
  obtain ⟨hN, hnc, hcm, hg, hcell⟩ := rd_parts' hrd
  have HR : Hid (Rd w (.slice (some ⟨g, o, none⟩) n c) l) := hrd
  have HN : Hid (l.length = n) := hN
  have HCW : Hid (∀ (W : World), Kept (fun _ => False) w W → ∀ j, j < n → W.cell? ⟨g, o + j, none⟩ = some (.int .u8 (l.getD j 0))) := fun W hk j hj => by rw [hk.cell (p := ⟨g, o + j, none⟩) hg (fun h => h)]; exact hcell j hj
  clear hN hcell hrd
  have h2a : e2 ≤ i0 + 1 := by omega
  have h2b : i0 + 1 ≤ e2 := by omega
  have q2 : ((e2 : Int) == (i0 : Int) + 1) = true := by simp; omega
  clear h2
  have q0 : ((i0 : Int) == 0) = false := by simp; omega
  have b1 : i0 ≤ c := by omega
  go_enter Try.func27, Try.ntmps27
  go_wp2_with fail
  refine (digitsEnd_at _ _ _ _ 0 i0 _ l _ rfl HN.out (by omega) (by omega) (HCW.out _ (Kept.alloc _ _ _)) H0).mono ?_
  rintro e w' ⟨rfl, rfl⟩
  go_wp2_with fail
  refine (digitsEnd_at _ _ _ _ (i0 + 1) e2 _ l _ (by omega) HN.out (by omega) (by omega) (HCW.out _ (Kept.alloc _ _ _)) H2).mono ?_
  rintro e w' ⟨rfl, rfl⟩
  go_wp2
  exact bodyPost_ret (v := .tuple #[.agg #[.slice none 0 0, .bool false, .slice none 0 0, .slice none 0 0], .bool false]) (by simp [results, Try.results27, go_sem]) rfl ⟨rfl, (Kept.alloc _ _ _)⟩

set_option maxHeartbeats 800000 in
theorem sd_N1_E_S0i (g o n c i0 e2 : Nat) (l : List Int) (w : World) (hrd : Rd w (.slice (some ⟨g, o, none⟩) n c) l) (hmax : n ≤ 1048576) (H0 : Hid (dEnd l 0 = i0)) (h0 : 1 ≤ i0) (hl0 : i0 < n) (hc1 : w.cell? ⟨g, o + i0, none⟩ = some (.int .u8 69)) (hl2 : i0 + 1 = n) (H2 : Hid (dEnd l (i0 + 1) = e2)) (h2 : e2 = i0 + 1) :
    Calls Try.prog 27 #[.slice (some ⟨g, o, none⟩) n c] w fun e w' => e = zeroOut ∧ Kept (fun _ => False) w w' := by
  obtain ⟨hN, hnc, hcm, hg, hcell⟩ := rd_parts' hrd
  have HR : Hid (Rd w (.slice (some ⟨g, o, none⟩) n c) l) := hrd
  have HN : Hid (l.length = n) := hN
  have HCW : Hid (∀ (W : World), Kept (fun _ => False) w W → ∀ j, j < n → W.cell? ⟨g, o + j, none⟩ = some (.int .u8 (l.getD j 0))) := fun W hk j hj => by rw [hk.cell (p := ⟨g, o + j, none⟩) hg (fun h => h)]; exact hcell j hj
  clear hN hcell hrd
  subst hl2
  have h2a : e2 ≤ i0 + 1 := by omega
  have h2b : i0 + 1 ≤ e2 := by omega
  have q2 : ((e2 : Int) == (i0 : Int) + 1) = true := by simp; omega
  clear h2
  have q0 : ((i0 : Int) == 0) = false := by simp; omega
  have b1 : i0 ≤ c := by omega
  go_enter Try.func27, Try.ntmps27
  go_wp2_with fail
  refine (digitsEnd_at _ _ _ _ 0 i0 _ l _ rfl HN.out (by omega) (by omega) (HCW.out _ (Kept.alloc _ _ _)) H0).mono ?_
  rintro e w' ⟨rfl, rfl⟩
  go_wp2_with fail
  refine (digitsEnd_at _ _ _ _ (i0 + 1) e2 _ l _ (by omega) HN.out (by omega) (by omega) (HCW.out _ (Kept.alloc _ _ _)) H2).mono ?_
  rintro e w' ⟨rfl, rfl⟩
  go_wp2
  exact bodyPost_ret (v := .tuple #[.agg #[.slice none 0 0, .bool false, .slice none 0 0, .slice none 0 0], .bool false]) (by simp [results, Try.results27, go_sem]) rfl ⟨rfl, (Kept.alloc _ _ _)⟩

set_option maxHeartbeats 800000 in
theorem sd_N1_E_S1v (g o n c i0 e2 : Nat) (l : List Int) (w : World) (hrd : Rd w (.slice (some ⟨g, o, none⟩) n c) l) (hmax : n ≤ 1048576) (H0 : Hid (dEnd l 0 = i0)) (h0 : 1 ≤ i0) (hl0 : i0 < n) (hc1 : w.cell? ⟨g, o + i0, none⟩ = some (.int .u8 69)) (hl2 : i0 + 1 < n) (hc2 : w.cell? ⟨g, o + (i0 + 1), none⟩ = some (.int .u8 43)) (H2 : Hid (dEnd l (i0 + 2) = e2)) (h2 : i0 + 2 < e2) (hl3 : e2 ≤ n) :
    Calls Try.prog 27 #[.slice (some ⟨g, o, none⟩) n c] w fun e w' => SplitOut l n i0 i0 e2 false e w' ∧ Kept (fun _ => False) w w' := by
  obtain ⟨hN, hnc, hcm, hg, hcell⟩ := rd_parts' hrd
  have HR : Hid (Rd w (.slice (some ⟨g, o, none⟩) n c) l) := hrd
  have HN : Hid (l.length = n) := hN
  have HCW : Hid (∀ (W : World), Kept (fun _ => False) w W → ∀ j, j < n → W.cell? ⟨g, o + j, none⟩ = some (.int .u8 (l.getD j 0))) := fun W hk j hj => by rw [hk.cell (p := ⟨g, o + j, none⟩) hg (fun h => h)]; exact hcell j hj
  clear hN hcell hrd
  have q2 : ((e2 : Int) == (i0 : Int) + 1 + 1) = false := by simp; omega
  have b3 : e2 ≤ c := by omega
  have q0 : ((i0 : Int) == 0) = false := by simp; omega
  have b1 : i0 ≤ c := by omega
  go_enter Try.func27, Try.ntmps27
  go_wp2_with fail
  refine (digitsEnd_at _ _ _ _ 0 i0 _ l _ rfl HN.out (by omega) (by omega) (HCW.out _ (Kept.alloc _ _ _)) H0).mono ?_
  rintro e w' ⟨rfl, rfl⟩
  go_wp2_with fail
  refine (digitsEnd_at _ _ _ _ (i0 + 2) e2 _ l _ (by omega) HN.out (by omega) (by omega) (HCW.out _ (Kept.alloc _ _ _)) H2).mono ?_
  rintro e w' ⟨rfl, rfl⟩
  go_wp2
  refine bodyPost_ret (v := .tuple #[.agg #[.slice (some ⟨g, o, none⟩) i0 c, .bool false, .slice none 0 0, .slice (some ⟨g, o + (i0 + 1), none⟩) (e2 - (i0 + 1)) (c - (i0 + 1))], .bool (((e2 : Nat) : Int) == ((n : Nat) : Int))]) (by simp [results, Try.results27, go_sem]) rfl ⟨⟨_, _, _, ret_split (int_dec _ _) _, rd_whole HR.out (Kept.alloc _ _ _) (by omega), rd_none l _ _ (by omega), rd_part HR.out (Kept.alloc _ _ _) (i0 + 1) e2 (by omega) (by omega) (by omega)⟩, (Kept.alloc _ _ _)⟩

set_option maxHeartbeats 800000 in
theorem sd_N1_E_S1i (g o n c i0 e2 : Nat) (l : List Int) (w : World) (hrd : Rd w (.slice (some ⟨g, o, none⟩) n c) l) (hmax : n ≤ 1048576) (H0 : Hid (dEnd l 0 = i0)) (h0 : 1 ≤ i0) (hl0 : i0 < n) (hc1 : w.cell? ⟨g, o + i0, none⟩ = some (.int .u8 69)) (hl2 : i0 + 1 < n) (hc2 : w.cell? ⟨g, o + (i0 + 1), none⟩ = some (.int .u8 43)) (H2 : Hid (dEnd l (i0 + 2) = e2)) (h2 : e2 = i0 + 2) :
    Calls Try.prog 27 #[.slice (some ⟨g, o, none⟩) n c] w fun e w' => e = zeroOut ∧ Kept (fun _ => False) w w' := by
  obtain ⟨hN, hnc, hcm, hg, hcell⟩ := rd_parts' hrd
  have HR : Hid (Rd w (.slice (some ⟨g, o, none⟩) n c) l) := hrd
  have HN : Hid (l.length = n) := hN
  have HCW : Hid (∀ (W : World), Kept (fun _ => False) w W → ∀ j, j < n → W.cell? ⟨g, o + j, none⟩ = some (.int .u8 (l.getD j 0))) := fun W hk j hj => by rw [hk.cell (p := ⟨g, o + j, none⟩) hg (fun h => h)]; exact hcell j hj
  clear hN hcell hrd
  have h2a : e2 ≤ i0 + 2 := by omega
  have h2b : i0 + 2 ≤ e2 := by omega
  have q2 : ((e2 : Int) == (i0 : Int) + 1 + 1) = true := by simp; omega
  clear h2
  have q0 : ((i0 : Int) == 0) = false := by simp; omega
  have b1 : i0 ≤ c := by omega
  go_enter Try.func27, Try.ntmps27
  go_wp2_with fail
  refine (digitsEnd_at _ _ _ _ 0 i0 _ l _ rfl HN.out (by omega) (by omega) (HCW.out _ (Kept.alloc _ _ _)) H0).mono ?_
  rintro e w' ⟨rfl, rfl⟩
  go_wp2_with fail
  refine (digitsEnd_at _ _ _ _ (i0 + 2) e2 _ l _ (by omega) HN.out (by omega) (by omega) (HCW.out _ (Kept.alloc _ _ _)) H2).mono ?_
  rintro e w' ⟨rfl, rfl⟩
  go_wp2
  exact bodyPost_ret (v := .tuple #[.agg #[.slice none 0 0, .bool false, .slice none 0 0, .slice none 0 0], .bool false]) (by simp [results, Try.results27, go_sem]) rfl ⟨rfl, (Kept.alloc _ _ _)⟩

set_option maxHeartbeats 800000 in
theorem sd_N1_E_S2v (g o n c i0 e2 : Nat) (l : List Int) (w : World) (hrd : Rd w (.slice (some ⟨g, o, none⟩) n c) l) (hmax : n ≤ 1048576) (H0 : Hid (dEnd l 0 = i0)) (h0 : 1 ≤ i0) (hl0 : i0 < n) (hc1 : w.cell? ⟨g, o + i0, none⟩ = some (.int .u8 69)) (hl2 : i0 + 1 < n) (hc2 : w.cell? ⟨g, o + (i0 + 1), none⟩ = some (.int .u8 45)) (H2 : Hid (dEnd l (i0 + 2) = e2)) (h2 : i0 + 2 < e2) (hl3 : e2 ≤ n) :
    Calls Try.prog 27 #[.slice (some ⟨g, o, none⟩) n c] w fun e w' => SplitOut l n i0 i0 e2 false e w' ∧ Kept (fun _ => False) w w' := by
  obtain ⟨hN, hnc, hcm, hg, hcell⟩ := rd_parts' hrd
  have HR : Hid (Rd w (.slice (some ⟨g, o, none⟩) n c) l) := hrd
  have HN : Hid (l.length = n) := hN
  have HCW : Hid (∀ (W : World), Kept (fun _ => False) w W → ∀ j, j < n → W.cell? ⟨g, o + j, none⟩ = some (.int .u8 (l.getD j 0))) := fun W hk j hj => by rw [hk.cell (p := ⟨g, o + j, none⟩) hg (fun h => h)]; exact hcell j hj
  clear hN hcell hrd
  have q2 : ((e2 : Int) == (i0 : Int) + 1 + 1) = false := by simp; omega
  have b3 : e2 ≤ c := by omega
  have q0 : ((i0 : Int) == 0) = false := by simp; omega
  have b1 : i0 ≤ c := by omega
  go_enter Try.func27, Try.ntmps27
  go_wp2_with fail
  refine (digitsEnd_at _ _ _ _ 0 i0 _ l _ rfl HN.out (by omega) (by omega) (HCW.out _ (Kept.alloc _ _ _)) H0).mono ?_
  rintro e w' ⟨rfl, rfl⟩
  go_wp2_with fail
  refine (digitsEnd_at _ _ _ _ (i0 + 2) e2 _ l _ (by omega) HN.out (by omega) (by omega) (HCW.out _ (Kept.alloc _ _ _)) H2).mono ?_
  rintro e w' ⟨rfl, rfl⟩
  go_wp2
  refine bodyPost_ret (v := .tuple #[.agg #[.slice (some ⟨g, o, none⟩) i0 c, .bool false, .slice none 0 0, .slice (some ⟨g, o + (i0 + 1), none⟩) (e2 - (i0 + 1)) (c - (i0 + 1))], .bool (((e2 : Nat) : Int) == ((n : Nat) : Int))]) (by simp [results, Try.results27, go_sem]) rfl ⟨⟨_, _, _, ret_split (int_dec _ _) _, rd_whole HR.out (Kept.alloc _ _ _) (by omega), rd_none l _ _ (by omega), rd_part HR.out (Kept.alloc _ _ _) (i0 + 1) e2 (by omega) (by omega) (by omega)⟩, (Kept.alloc _ _ _)⟩

set_option maxHeartbeats 800000 in
theorem sd_N1_E_S2i (g o n c i0 e2 : Nat) (l : List Int) (w : World) (hrd : Rd w (.slice (some ⟨g, o, none⟩) n c) l) (hmax : n ≤ 1048576) (H0 : Hid (dEnd l 0 = i0)) (h0 : 1 ≤ i0) (hl0 : i0 < n) (hc1 : w.cell? ⟨g, o + i0, none⟩ = some (.int .u8 69)) (hl2 : i0 + 1 < n) (hc2 : w.cell? ⟨g, o + (i0 + 1), none⟩ = some (.int .u8 45)) (H2 : Hid (dEnd l (i0 + 2) = e2)) (h2 : e2 = i0 + 2) :
    Calls Try.prog 27 #[.slice (some ⟨g, o, none⟩) n c] w fun e w' => e = zeroOut ∧ Kept (fun _ => False) w w' := by
  obtain ⟨hN, hnc, hcm, hg, hcell⟩ := rd_parts' hrd
  have HR : Hid (Rd w (.slice (some ⟨g, o, none⟩) n c) l) := hrd
  have HN : Hid (l.length = n) := hN
  have HCW : Hid (∀ (W : World), Kept (fun _ => False) w W → ∀ j, j < n → W.cell? ⟨g, o + j, none⟩ = some (.int .u8 (l.getD j 0))) := fun W hk j hj => by rw [hk.cell (p := ⟨g, o + j, none⟩) hg (fun h => h)]; exact hcell j hj
  clear hN hcell hrd
  have h2a : e2 ≤ i0 + 2 := by omega
  have h2b : i0 + 2 ≤ e2 := by omega
  have q2 : ((e2 : Int) == (i0 : Int) + 1 + 1) = true := by simp; omega
  clear h2
  have q0 : ((i0 : Int) == 0) = false := by simp; omega
  have b1 : i0 ≤ c := by omega
  go_enter Try.func27, Try.ntmps27
  go_wp2_with fail
  refine (digitsEnd_at _ _ _ _ 0 i0 _ l _ rfl HN.out (by omega) (by omega) (HCW.out _ (Kept.alloc _ _ _)) H0).mono ?_
  rintro e w' ⟨rfl, rfl⟩
  go_wp2_with fail
  refine (digitsEnd_at _ _ _ _ (i0 + 2) e2 _ l _ (by omega) HN.out (by omega) (by omega) (HCW.out _ (Kept.alloc _ _ _)) H2).mono ?_
  rintro e w' ⟨rfl, rfl⟩
  go_wp2
  exact bodyPost_ret (v := .tuple #[.agg #[.slice none 0 0, .bool false, .slice none 0 0, .slice none 0 0], .bool false]) (by simp [results, Try.results27, go_sem]) rfl ⟨rfl, (Kept.alloc _ _ _)⟩

set_option maxHeartbeats 800000 in
theorem sd_N1_E_S3v (g o n c i0 e2 : Nat) (l : List Int) (w : World) (hrd : Rd w (.slice (some ⟨g, o, none⟩) n c) l) (hmax : n ≤ 1048576) (H0 : Hid (dEnd l 0 = i0)) (h0 : 1 ≤ i0) (hl0 : i0 < n) (hc1 : w.cell? ⟨g, o + i0, none⟩ = some (.int .u8 69)) (hl2 : i0 + 1 < n) (c2 : Int) (hc2 : w.cell? ⟨g, o + (i0 + 1), none⟩ = some (.int .u8 c2)) (n43 : (c2 == 43) = false) (n45 : (c2 == 45) = false) (H2 : Hid (dEnd l (i0 + 1) = e2)) (h2 : i0 + 1 < e2) (hl3 : e2 ≤ n) :
    Calls Try.prog 27 #[.slice (some ⟨g, o, none⟩) n c] w fun e w' => SplitOut l n i0 i0 e2 false e w' ∧ Kept (fun _ => False) w w' := by
  obtain ⟨hN, hnc, hcm, hg, hcell⟩ := rd_parts' hrd
  have HR : Hid (Rd w (.slice (some ⟨g, o, none⟩) n c) l) := hrd
  have HN : Hid (l.length = n) := hN
  have HCW : Hid (∀ (W : World), Kept (fun _ => False) w W → ∀ j, j < n → W.cell? ⟨g, o + j, none⟩ = some (.int .u8 (l.getD j 0))) := fun W hk j hj => by rw [hk.cell (p := ⟨g, o + j, none⟩) hg (fun h => h)]; exact hcell j hj
  clear hN hcell hrd
  have q2 : ((e2 : Int) == (i0 : Int) + 1) = false := by simp; omega
  have b3 : e2 ≤ c := by omega
  have q0 : ((i0 : Int) == 0) = false := by simp; omega
  have b1 : i0 ≤ c := by omega
  go_enter Try.func27, Try.ntmps27
  go_wp2_with fail
  refine (digitsEnd_at _ _ _ _ 0 i0 _ l _ rfl HN.out (by omega) (by omega) (HCW.out _ (Kept.alloc _ _ _)) H0).mono ?_
  rintro e w' ⟨rfl, rfl⟩
  go_wp2_with fail
  refine (digitsEnd_at _ _ _ _ (i0 + 1) e2 _ l _ (by omega) HN.out (by omega) (by omega) (HCW.out _ (Kept.alloc _ _ _)) H2).mono ?_
  rintro e w' ⟨rfl, rfl⟩
  go_wp2
  refine bodyPost_ret (v := .tuple #[.agg #[.slice (some ⟨g, o, none⟩) i0 c, .bool false, .slice none 0 0, .slice (some ⟨g, o + (i0 + 1), none⟩) (e2 - (i0 + 1)) (c - (i0 + 1))], .bool (((e2 : Nat) : Int) == ((n : Nat) : Int))]) (by simp [results, Try.results27, go_sem]) rfl ⟨⟨_, _, _, ret_split (int_dec _ _) _, rd_whole HR.out (Kept.alloc _ _ _) (by omega), rd_none l _ _ (by omega), rd_part HR.out (Kept.alloc _ _ _) (i0 + 1) e2 (by omega) (by omega) (by omega)⟩, (Kept.alloc _ _ _)⟩

set_option maxHeartbeats 800000 in
theorem sd_N1_E_S3i (g o n c i0 e2 : Nat) (l : List Int) (w : World) (hrd : Rd w (.slice (some ⟨g, o, none⟩) n c) l) (hmax : n ≤ 1048576) (H0 : Hid (dEnd l 0 = i0)) (h0 : 1 ≤ i0) (hl0 : i0 < n) (hc1 : w.cell? ⟨g, o + i0, none⟩ = some (.int .u8 69)) (hl2 : i0 + 1 < n) (c2 : Int) (hc2 : w.cell? ⟨g, o + (i0 + 1), none⟩ = some (.int .u8 c2)) (n43 : (c2 == 43) = false) (n45 : (c2 == 45) = false) (H2 : Hid (dEnd l (i0 + 1) = e2)) (h2 : e2 = i0 + 1) :
    Calls Try.prog 27 #[.slice (some ⟨g, o, none⟩) n c] w fun e w' => e = zeroOut ∧ Kept (fun _ => False) w w' := by
  obtain ⟨hN, hnc, hcm, hg, hcell⟩ := rd_parts' hrd
  have HR : Hid (Rd w (.slice (some ⟨g, o, none⟩) n c) l) := hrd
  have HN : Hid (l.length = n) := hN
  have HCW : Hid (∀ (W : World), Kept (fun _ => False) w W → ∀ j, j < n → W.cell? ⟨g, o + j, none⟩ = some (.int .u8 (l.getD j 0))) := fun W hk j hj => by rw [hk.cell (p := ⟨g, o + j, none⟩) hg (fun h => h)]; exact hcell j hj
  clear hN hcell hrd
  have h2a : e2 ≤ i0 + 1 := by omega
  have h2b : i0 + 1 ≤ e2 := by omega
  have q2 : ((e2 : Int) == (i0 : Int) + 1) = true := by simp; omega
  clear h2
  have q0 : ((i0 : Int) == 0) = false := by simp; omega
  have b1 : i0 ≤ c := by omega
  go_enter Try.func27, Try.ntmps27
  go_wp2_with fail
  refine (digitsEnd_at _ _ _ _ 0 i0 _ l _ rfl HN.out (by omega) (by omega) (HCW.out _ (Kept.alloc _ _ _)) H0).mono ?_
  rintro e w' ⟨rfl, rfl⟩
  go_wp2_with fail
  refine (digitsEnd_at _ _ _ _ (i0 + 1) e2 _ l _ (by omega) HN.out (by omega) (by omega) (HCW.out _ (Kept.alloc _ _ _)) H2).mono ?_
  rintro e w' ⟨rfl, rfl⟩
  go_wp2
  exact bodyPost_ret (v := .tuple #[.agg #[.slice none 0 0, .bool false, .slice none 0 0, .slice none 0 0], .bool false]) (by simp [results, Try.results27, go_sem]) rfl ⟨rfl, (Kept.alloc _ _ _)⟩
end Go.Proofs.Qxb6603725a
