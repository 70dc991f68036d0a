/-
  THE WALKS, I: zzB1IsSplitOf (23): where the parts are the split. PART 4.
-/
import Derived.Test.Qxb6603725aWalkI0
namespace Go.Proofs.Qxb6603725a
open Go.RowKit
set_option maxRecDepth 100000
set_option linter.unusedSimpArgs false

set_option maxHeartbeats 1600000 in
theorem is_P_E_1 (aW aF : Option Addr) (nW cW nF cF nE cE nt ct gE oE gt ot K : Nat) (wl fl el tl R : List Int) (w : World) (hw : Rd w (.slice aW nW cW) wl) (HW : Hid (wl.length = nW)) (hw1 : 1 ≤ nW) (hwd : ∀ x ∈ wl, isD x = true) (hwm : nW ≤ 1048576) (hf : Rd w (.slice aF nF cF) fl) (HF : Hid (fl.length = nF)) (hfd : ∀ x ∈ fl, isD x = true) (hfm : nF ≤ 1048576) (HR : Hid (R = wl ++ [46] ++ fl)) (HK : Hid (R.length = K)) (hKm : K ≤ 1048576) (HT : Hid (tl = R ++ [69] ++ el)) (hnt : nt = K + 1 + nE) (ht : Rd w (.slice (some ⟨gt, ot, none⟩) nt ct) tl) (htm : nt ≤ 1048576) (he : Rd w (.slice (some ⟨gE, oE, none⟩) nE cE) el) (HEL : Hid (el.length = nE)) (he1 : 2 ≤ nE) (hx0 : Hid (el[0]? = some 43)) (hed : ∀ x ∈ el.drop 1, isD x = true) :
    Calls Try.prog 23 #[.slice (some ⟨gt, ot, none⟩) nt ct, .slice aW nW cW, .bool true, .slice aF nF cF, .slice (some ⟨gE, oE, none⟩) nE cE] w fun e w' => e = .returned (.bool true) ∧ Kept (fun _ => False) w w' := by
  obtain ⟨ti, hi, hz0, hz1, hz2⟩ := info_parts info5
  have qw : ((nW : Int) == 0) = false := by simp; omega
  have lw : wl.length ≤ 1048576 := by have := HW.out; omega
  have lf : fl.length ≤ 1048576 := by have := HF.out; omega
  have lK : R.length = wl.length + 1 + fl.length := by rw [HR.out]; simp; omega
  have lK1 := HK.out
  have hkc : w.cell? ⟨gt, ot + K, none⟩ = some (.int .u8 69) := rd_cell ht (by rw [HT.out, ← HK.out]; exact mid_get R el 69)
  have hec : w.cell? ⟨gE, oE, none⟩ = some (.int .u8 43) := by simpa using rd_cell he hx0.out
  obtain ⟨-, hcE, hgE⟩ := rd_len he
  obtain ⟨-, hct, hgt⟩ := rd_len ht
  have le : el.length ≤ 1048576 := by have := HEL.out; omega
  have h1 : K + 1 + nE ≤ nt := by omega
  have h2 : nt ≤ K + 1 + nE := by omega
  have qe : ((nE : Int) == 0) = false := by simp; omega
  have hcE1 : ¬ cE = 1 := by omega
  have red : Rd w (.slice (some ⟨gE, oE + 1, none⟩) (nE - 1) (cE - 1)) (el.drop 1) := by
    have h := he.cut 1 nE (by omega) (Nat.le_refl _) (.slice (some ⟨gE, oE + 1, none⟩) (nE - 1) (cE - 1)) (by rw [if_neg hcE1])
    rwa [List.take_of_length_le (by have := HEL.out; omega)] at h
  have qe1 : ((nE : Int) - 1 == 0) = false := by simp; omega
  clear hnt
  have HLK : Hid (R.length = K) := lK1
  clear lK1
  go_enter Try.func23, Try.ntmps23
  go_wp2_with fail
  refine (allDigits_any _ wl _ hw lw hwd).mono ?_
  rintro e w' ⟨rfl, rfl⟩
  go_wp2_with fail
  refine (allDigits_any _ fl _ hf lf hfd).mono ?_
  rintro e w' ⟨rfl, rfl⟩
  go_wp2_with (at_make; refine wpList_make_own _ rfl _ _ 22 rfl _ 5 ti (.int .u8 0) 1 Try.underlying22 hi hz0 hz1 _ _ _ (nt + 1) rfl rfl (by omega) ?b2 ?b3 (Nat.le_refl _) ?_)
  case b2 => rw [hz2]; omega
  case b3 => unfold maxLen; omega
  intro wG hownG hgG
  have W0 := Wt.made hownG hgG
  clear hownG hgG
  go_wp2_with (at_builtin; refine wpList_append_bytes wG rfl (.tmp 38) (.tmp 39) 22 22 rfl ti Try.underlying22 hi hz0 hz1 hz2 _ ([]) rfl W0.own _ (wl) rfl ((own_move hw W0.kept).src Try.underlying22) (by simp only [List.length_append, List.length_nil, List.length_singleton]; omega) ?_)
  intro v1 w1 o1 g1 k1
  have W1 : Wt w w1 v1 ([] ++ wl) := by
    have h := W0.app (Kept.refl _ _) o1 g1 (by simpa using k1)
    simpa using h
  clear o1 g1 k1 W0
  go_wp2_with (at_builtin; refine wpList_append_bytes (w1.alloc (.cells #[.int .u8 46] 5)) rfl (.tmp 42) (.tmp 43) 22 22 rfl ti Try.underlying22 hi hz0 hz1 hz2 _ ([] ++ wl) rfl (W1.own.alloc _) _ ([46]) rfl ((Rd.lit w1 [46] _ rfl (by simp [maxLen])).src Try.underlying22) (by simp only [List.length_append, List.length_nil, List.length_singleton]; omega) ?_)
  intro v2 w2 o2 g2 k2
  have W2 : Wt w w2 v2 ([] ++ wl ++ [46]) := by
    have h := W1.app (Kept.alloc w1 _ _) o2 g2 (by simpa using k2)
    simpa using h
  clear o2 g2 k2 W1
  go_wp2_with (at_builtin; refine wpList_append_bytes w2 rfl (.tmp 45) (.tmp 46) 22 22 rfl ti Try.underlying22 hi hz0 hz1 hz2 _ ([] ++ wl ++ [46]) rfl W2.own _ (fl) rfl ((own_move hf W2.kept).src Try.underlying22) (by simp only [List.length_append, List.length_nil, List.length_singleton]; omega) ?_)
  intro v3 w3 o3 g3 k3
  have W3 : Wt w w3 v3 ([] ++ wl ++ [46] ++ fl) := by
    have h := W2.app (Kept.refl _ _) o3 g3 (by simpa using k3)
    simpa using h
  clear o3 g3 k3 W2
  have W3' : Wt w w3 v3 R := by rw [HR.out]; simpa using W3
  clear W3
  obtain ⟨a3, c3, hv3⟩ := own_len W3'.own K HLK.out
  rw [hv3] at W3' ⊢
  clear hv3
  have hkc3 : w3.cell? ⟨gt, ot + K, none⟩ = some (.int .u8 69) := by rw [W3'.kept.cell (p := ⟨gt, ot + K, none⟩) hgt (fun h => h)]; exact hkc
  have hec3 : w3.cell? ⟨gE, oE, none⟩ = some (.int .u8 43) := by rw [W3'.kept.cell (p := ⟨gE, oE, none⟩) hgE (fun h => h)]; exact hec
  have hgt3 : gt < w3.heap.size := Nat.lt_of_lt_of_le hgt W3'.kept.size
  clear hkc hec
  go_wp2_with fail
  refine (allDigits_any _ (el.drop 1) _ (own_move red W3'.kept) (by rw [List.length_drop]; omega) hed).mono ?_
  rintro e w' ⟨rfl, rfl⟩
  go_wp2_with (at_builtin; refine wpList_append_bytes (w3.alloc (.cells #[.int .u8 69] 5)) rfl (.tmp 92) (.tmp 97) 22 22 rfl ti Try.underlying22 hi hz0 hz1 hz2 _ (R) rfl (W3'.own.alloc _) _ ([69]) rfl ((Rd.lit w3 [69] _ rfl (by simp [maxLen])).src Try.underlying22) (by simp only [List.length_append, List.length_nil, List.length_singleton]; omega) ?_)
  intro v4 w4 o4 g4 k4
  have W4 : Wt w w4 v4 (R ++ [69]) := by
    have h := W3'.app (Kept.alloc w3 _ _) o4 g4 (by simpa using k4)
    simpa using h
  clear o4 g4 k4 W3'
  go_wp2_with (at_builtin; refine wpList_append_bytes w4 rfl (.tmp 99) (.tmp 100) 22 22 rfl ti Try.underlying22 hi hz0 hz1 hz2 _ (R ++ [69]) rfl W4.own _ (el) rfl ((own_move he W4.kept).src Try.underlying22) (by simp only [List.length_append, List.length_nil, List.length_singleton]; omega) ?_)
  intro v5 w5 o5 g5 k5
  have W5 : Wt w w5 v5 (R ++ [69] ++ el) := by
    have h := W4.app (Kept.refl _ _) o5 g5 (by simpa using k5)
    simpa using h
  clear o5 g5 k5 W4
  have W6 : Wt w w5 v5 tl := by rw [HT.out]; simpa using W5
  clear W5
  have bl : tl.length ≤ 70368744177664 := by rw [HT.out]; simp only [List.length_append, List.length_singleton]; omega
  go_wp2_with fail
  refine (equal_any _ _ _ _ _ W6.own.rd (own_move ht W6.kept) bl).mono ?_
  rintro e w7 ⟨rfl, k7⟩
  go_wp2
  go_ret
  exact ⟨ret_bool (by simp), W6.kept.trans k7 (fun _ _ h => h) (fun _ _ h => h)⟩

set_option maxHeartbeats 1600000 in
theorem is_P_E_2 (aW aF : Option Addr) (nW cW nF cF nE cE nt ct gE oE gt ot K : Nat) (wl fl el tl R : List Int) (w : World) (hw : Rd w (.slice aW nW cW) wl) (HW : Hid (wl.length = nW)) (hw1 : 1 ≤ nW) (hwd : ∀ x ∈ wl, isD x = true) (hwm : nW ≤ 1048576) (hf : Rd w (.slice aF nF cF) fl) (HF : Hid (fl.length = nF)) (hfd : ∀ x ∈ fl, isD x = true) (hfm : nF ≤ 1048576) (HR : Hid (R = wl ++ [46] ++ fl)) (HK : Hid (R.length = K)) (hKm : K ≤ 1048576) (HT : Hid (tl = R ++ [69] ++ el)) (hnt : nt = K + 1 + nE) (ht : Rd w (.slice (some ⟨gt, ot, none⟩) nt ct) tl) (htm : nt ≤ 1048576) (he : Rd w (.slice (some ⟨gE, oE, none⟩) nE cE) el) (HEL : Hid (el.length = nE)) (he1 : 2 ≤ nE) (hx0 : Hid (el[0]? = some 45)) (hed : ∀ x ∈ el.drop 1, isD x = true) :
    Calls Try.prog 23 #[.slice (some ⟨gt, ot, none⟩) nt ct, .slice aW nW cW, .bool true, .slice aF nF cF, .slice (some ⟨gE, oE, none⟩) nE cE] w fun e w' => e = .returned (.bool true) ∧ Kept (fun _ => False) w w' := by
  obtain ⟨ti, hi, hz0, hz1, hz2⟩ := info_parts info5
  have qw : ((nW : Int) == 0) = false := by simp; omega
  have lw : wl.length ≤ 1048576 := by have := HW.out; omega
  have lf : fl.length ≤ 1048576 := by have := HF.out; omega
  have lK : R.length = wl.length + 1 + fl.length := by rw [HR.out]; simp; omega
  have lK1 := HK.out
  have hkc : w.cell? ⟨gt, ot + K, none⟩ = some (.int .u8 69) := rd_cell ht (by rw [HT.out, ← HK.out]; exact mid_get R el 69)
  have hec : w.cell? ⟨gE, oE, none⟩ = some (.int .u8 45) := by simpa using rd_cell he hx0.out
  obtain ⟨-, hcE, hgE⟩ := rd_len he
  obtain ⟨-, hct, hgt⟩ := rd_len ht
  have le : el.length ≤ 1048576 := by have := HEL.out; omega
  have h1 : K + 1 + nE ≤ nt := by omega
  have h2 : nt ≤ K + 1 + nE := by omega
  have qe : ((nE : Int) == 0) = false := by simp; omega
  have hcE1 : ¬ cE = 1 := by omega
  have red : Rd w (.slice (some ⟨gE, oE + 1, none⟩) (nE - 1) (cE - 1)) (el.drop 1) := by
    have h := he.cut 1 nE (by omega) (Nat.le_refl _) (.slice (some ⟨gE, oE + 1, none⟩) (nE - 1) (cE - 1)) (by rw [if_neg hcE1])
    rwa [List.take_of_length_le (by have := HEL.out; omega)] at h
  have qe1 : ((nE : Int) - 1 == 0) = false := by simp; omega
  clear hnt
  have HLK : Hid (R.length = K) := lK1
  clear lK1
  go_enter Try.func23, Try.ntmps23
  go_wp2_with fail
  refine (allDigits_any _ wl _ hw lw hwd).mono ?_
  rintro e w' ⟨rfl, rfl⟩
  go_wp2_with fail
  refine (allDigits_any _ fl _ hf lf hfd).mono ?_
  rintro e w' ⟨rfl, rfl⟩
  go_wp2_with (at_make; refine wpList_make_own _ rfl _ _ 22 rfl _ 5 ti (.int .u8 0) 1 Try.underlying22 hi hz0 hz1 _ _ _ (nt + 1) rfl rfl (by omega) ?b2 ?b3 (Nat.le_refl _) ?_)
  case b2 => rw [hz2]; omega
  case b3 => unfold maxLen; omega
  intro wG hownG hgG
  have W0 := Wt.made hownG hgG
  clear hownG hgG
  go_wp2_with (at_builtin; refine wpList_append_bytes wG rfl (.tmp 38) (.tmp 39) 22 22 rfl ti Try.underlying22 hi hz0 hz1 hz2 _ ([]) rfl W0.own _ (wl) rfl ((own_move hw W0.kept).src Try.underlying22) (by simp only [List.length_append, List.length_nil, List.length_singleton]; omega) ?_)
  intro v1 w1 o1 g1 k1
  have W1 : Wt w w1 v1 ([] ++ wl) := by
    have h := W0.app (Kept.refl _ _) o1 g1 (by simpa using k1)
    simpa using h
  clear o1 g1 k1 W0
  go_wp2_with (at_builtin; refine wpList_append_bytes (w1.alloc (.cells #[.int .u8 46] 5)) rfl (.tmp 42) (.tmp 43) 22 22 rfl ti Try.underlying22 hi hz0 hz1 hz2 _ ([] ++ wl) rfl (W1.own.alloc _) _ ([46]) rfl ((Rd.lit w1 [46] _ rfl (by simp [maxLen])).src Try.underlying22) (by simp only [List.length_append, List.length_nil, List.length_singleton]; omega) ?_)
  intro v2 w2 o2 g2 k2
  have W2 : Wt w w2 v2 ([] ++ wl ++ [46]) := by
    have h := W1.app (Kept.alloc w1 _ _) o2 g2 (by simpa using k2)
    simpa using h
  clear o2 g2 k2 W1
  go_wp2_with (at_builtin; refine wpList_append_bytes w2 rfl (.tmp 45) (.tmp 46) 22 22 rfl ti Try.underlying22 hi hz0 hz1 hz2 _ ([] ++ wl ++ [46]) rfl W2.own _ (fl) rfl ((own_move hf W2.kept).src Try.underlying22) (by simp only [List.length_append, List.length_nil, List.length_singleton]; omega) ?_)
  intro v3 w3 o3 g3 k3
  have W3 : Wt w w3 v3 ([] ++ wl ++ [46] ++ fl) := by
    have h := W2.app (Kept.refl _ _) o3 g3 (by simpa using k3)
    simpa using h
  clear o3 g3 k3 W2
  have W3' : Wt w w3 v3 R := by rw [HR.out]; simpa using W3
  clear W3
  obtain ⟨a3, c3, hv3⟩ := own_len W3'.own K HLK.out
  rw [hv3] at W3' ⊢
  clear hv3
  have hkc3 : w3.cell? ⟨gt, ot + K, none⟩ = some (.int .u8 69) := by rw [W3'.kept.cell (p := ⟨gt, ot + K, none⟩) hgt (fun h => h)]; exact hkc
  have hec3 : w3.cell? ⟨gE, oE, none⟩ = some (.int .u8 45) := by rw [W3'.kept.cell (p := ⟨gE, oE, none⟩) hgE (fun h => h)]; exact hec
  have hgt3 : gt < w3.heap.size := Nat.lt_of_lt_of_le hgt W3'.kept.size
  clear hkc hec
  go_wp2_with fail
  refine (allDigits_any _ (el.drop 1) _ (own_move red W3'.kept) (by rw [List.length_drop]; omega) hed).mono ?_
  rintro e w' ⟨rfl, rfl⟩
  go_wp2_with (at_builtin; refine wpList_append_bytes (w3.alloc (.cells #[.int .u8 69] 5)) rfl (.tmp 92) (.tmp 97) 22 22 rfl ti Try.underlying22 hi hz0 hz1 hz2 _ (R) rfl (W3'.own.alloc _) _ ([69]) rfl ((Rd.lit w3 [69] _ rfl (by simp [maxLen])).src Try.underlying22) (by simp only [List.length_append, List.length_nil, List.length_singleton]; omega) ?_)
  intro v4 w4 o4 g4 k4
  have W4 : Wt w w4 v4 (R ++ [69]) := by
    have h := W3'.app (Kept.alloc w3 _ _) o4 g4 (by simpa using k4)
    simpa using h
  clear o4 g4 k4 W3'
  go_wp2_with (at_builtin; refine wpList_append_bytes w4 rfl (.tmp 99) (.tmp 100) 22 22 rfl ti Try.underlying22 hi hz0 hz1 hz2 _ (R ++ [69]) rfl W4.own _ (el) rfl ((own_move he W4.kept).src Try.underlying22) (by simp only [List.length_append, List.length_nil, List.length_singleton]; omega) ?_)
  intro v5 w5 o5 g5 k5
  have W5 : Wt w w5 v5 (R ++ [69] ++ el) := by
    have h := W4.app (Kept.refl _ _) o5 g5 (by simpa using k5)
    simpa using h
  clear o5 g5 k5 W4
  have W6 : Wt w w5 v5 tl := by rw [HT.out]; simpa using W5
  clear W5
  have bl : tl.length ≤ 70368744177664 := by rw [HT.out]; simp only [List.length_append, List.length_singleton]; omega
  go_wp2_with fail
  refine (equal_any _ _ _ _ _ W6.own.rd (own_move ht W6.kept) bl).mono ?_
  rintro e w7 ⟨rfl, k7⟩
  go_wp2
  go_ret
  exact ⟨ret_bool (by simp), W6.kept.trans k7 (fun _ _ h => h) (fun _ _ h => h)⟩

set_option maxHeartbeats 1600000 in
theorem is_P_E_3 (aW aF : Option Addr) (nW cW nF cF nE cE nt ct gE oE gt ot K : Nat) (wl fl el tl R : List Int) (w : World) (hw : Rd w (.slice aW nW cW) wl) (HW : Hid (wl.length = nW)) (hw1 : 1 ≤ nW) (hwd : ∀ x ∈ wl, isD x = true) (hwm : nW ≤ 1048576) (hf : Rd w (.slice aF nF cF) fl) (HF : Hid (fl.length = nF)) (hfd : ∀ x ∈ fl, isD x = true) (hfm : nF ≤ 1048576) (HR : Hid (R = wl ++ [46] ++ fl)) (HK : Hid (R.length = K)) (hKm : K ≤ 1048576) (HT : Hid (tl = R ++ [69] ++ el)) (hnt : nt = K + 1 + nE) (ht : Rd w (.slice (some ⟨gt, ot, none⟩) nt ct) tl) (htm : nt ≤ 1048576) (he : Rd w (.slice (some ⟨gE, oE, none⟩) nE cE) el) (HEL : Hid (el.length = nE)) (he1 : 1 ≤ nE) (x0 : Int) (hx0 : Hid (el[0]? = some x0)) (n43 : (x0 == 43) = false) (n45 : (x0 == 45) = false) (hed : ∀ x ∈ el, isD x = true) :
    Calls Try.prog 23 #[.slice (some ⟨gt, ot, none⟩) nt ct, .slice aW nW cW, .bool true, .slice aF nF cF, .slice (some ⟨gE, oE, none⟩) nE cE] w fun e w' => e = .returned (.bool true) ∧ Kept (fun _ => False) w w' := by
  obtain ⟨ti, hi, hz0, hz1, hz2⟩ := info_parts info5
  have qw : ((nW : Int) == 0) = false := by simp; omega
  have lw : wl.length ≤ 1048576 := by have := HW.out; omega
  have lf : fl.length ≤ 1048576 := by have := HF.out; omega
  have lK : R.length = wl.length + 1 + fl.length := by rw [HR.out]; simp; omega
  have lK1 := HK.out
  have hkc : w.cell? ⟨gt, ot + K, none⟩ = some (.int .u8 69) := rd_cell ht (by rw [HT.out, ← HK.out]; exact mid_get R el 69)
  have hec : w.cell? ⟨gE, oE, none⟩ = some (.int .u8 x0) := by simpa using rd_cell he hx0.out
  obtain ⟨-, hcE, hgE⟩ := rd_len he
  obtain ⟨-, hct, hgt⟩ := rd_len ht
  have le : el.length ≤ 1048576 := by have := HEL.out; omega
  have h1 : K + 1 + nE ≤ nt := by omega
  have h2 : nt ≤ K + 1 + nE := by omega
  have qe : ((nE : Int) == 0) = false := by simp; omega
  clear hnt
  have HLK : Hid (R.length = K) := lK1
  clear lK1
  go_enter Try.func23, Try.ntmps23
  go_wp2_with fail
  refine (allDigits_any _ wl _ hw lw hwd).mono ?_
  rintro e w' ⟨rfl, rfl⟩
  go_wp2_with fail
  refine (allDigits_any _ fl _ hf lf hfd).mono ?_
  rintro e w' ⟨rfl, rfl⟩
  go_wp2_with (at_make; refine wpList_make_own _ rfl _ _ 22 rfl _ 5 ti (.int .u8 0) 1 Try.underlying22 hi hz0 hz1 _ _ _ (nt + 1) rfl rfl (by omega) ?b2 ?b3 (Nat.le_refl _) ?_)
  case b2 => rw [hz2]; omega
  case b3 => unfold maxLen; omega
  intro wG hownG hgG
  have W0 := Wt.made hownG hgG
  clear hownG hgG
  go_wp2_with (at_builtin; refine wpList_append_bytes wG rfl (.tmp 38) (.tmp 39) 22 22 rfl ti Try.underlying22 hi hz0 hz1 hz2 _ ([]) rfl W0.own _ (wl) rfl ((own_move hw W0.kept).src Try.underlying22) (by simp only [List.length_append, List.length_nil, List.length_singleton]; omega) ?_)
  intro v1 w1 o1 g1 k1
  have W1 : Wt w w1 v1 ([] ++ wl) := by
    have h := W0.app (Kept.refl _ _) o1 g1 (by simpa using k1)
    simpa using h
  clear o1 g1 k1 W0
  go_wp2_with (at_builtin; refine wpList_append_bytes (w1.alloc (.cells #[.int .u8 46] 5)) rfl (.tmp 42) (.tmp 43) 22 22 rfl ti Try.underlying22 hi hz0 hz1 hz2 _ ([] ++ wl) rfl (W1.own.alloc _) _ ([46]) rfl ((Rd.lit w1 [46] _ rfl (by simp [maxLen])).src Try.underlying22) (by simp only [List.length_append, List.length_nil, List.length_singleton]; omega) ?_)
  intro v2 w2 o2 g2 k2
  have W2 : Wt w w2 v2 ([] ++ wl ++ [46]) := by
    have h := W1.app (Kept.alloc w1 _ _) o2 g2 (by simpa using k2)
    simpa using h
  clear o2 g2 k2 W1
  go_wp2_with (at_builtin; refine wpList_append_bytes w2 rfl (.tmp 45) (.tmp 46) 22 22 rfl ti Try.underlying22 hi hz0 hz1 hz2 _ ([] ++ wl ++ [46]) rfl W2.own _ (fl) rfl ((own_move hf W2.kept).src Try.underlying22) (by simp only [List.length_append, List.length_nil, List.length_singleton]; omega) ?_)
  intro v3 w3 o3 g3 k3
  have W3 : Wt w w3 v3 ([] ++ wl ++ [46] ++ fl) := by
    have h := W2.app (Kept.refl _ _) o3 g3 (by simpa using k3)
    simpa using h
  clear o3 g3 k3 W2
  have W3' : Wt w w3 v3 R := by rw [HR.out]; simpa using W3
  clear W3
  obtain ⟨a3, c3, hv3⟩ := own_len W3'.own K HLK.out
  rw [hv3] at W3' ⊢
  clear hv3
  have hkc3 : w3.cell? ⟨gt, ot + K, none⟩ = some (.int .u8 69) := by rw [W3'.kept.cell (p := ⟨gt, ot + K, none⟩) hgt (fun h => h)]; exact hkc
  have hec3 : w3.cell? ⟨gE, oE, none⟩ = some (.int .u8 x0) := by rw [W3'.kept.cell (p := ⟨gE, oE, none⟩) hgE (fun h => h)]; exact hec
  have hgt3 : gt < w3.heap.size := Nat.lt_of_lt_of_le hgt W3'.kept.size
  clear hkc hec
  go_wp2_with fail
  refine (allDigits_any _ el _ (own_move he W3'.kept) (le) hed).mono ?_
  rintro e w' ⟨rfl, rfl⟩
  go_wp2_with (at_builtin; refine wpList_append_bytes (w3.alloc (.cells #[.int .u8 69] 5)) rfl (.tmp 92) (.tmp 97) 22 22 rfl ti Try.underlying22 hi hz0 hz1 hz2 _ (R) rfl (W3'.own.alloc _) _ ([69]) rfl ((Rd.lit w3 [69] _ rfl (by simp [maxLen])).src Try.underlying22) (by simp only [List.length_append, List.length_nil, List.length_singleton]; omega) ?_)
  intro v4 w4 o4 g4 k4
  have W4 : Wt w w4 v4 (R ++ [69]) := by
    have h := W3'.app (Kept.alloc w3 _ _) o4 g4 (by simpa using k4)
    simpa using h
  clear o4 g4 k4 W3'
  go_wp2_with (at_builtin; refine wpList_append_bytes w4 rfl (.tmp 99) (.tmp 100) 22 22 rfl ti Try.underlying22 hi hz0 hz1 hz2 _ (R ++ [69]) rfl W4.own _ (el) rfl ((own_move he W4.kept).src Try.underlying22) (by simp only [List.length_append, List.length_nil, List.length_singleton]; omega) ?_)
  intro v5 w5 o5 g5 k5
  have W5 : Wt w w5 v5 (R ++ [69] ++ el) := by
    have h := W4.app (Kept.refl _ _) o5 g5 (by simpa using k5)
    simpa using h
  clear o5 g5 k5 W4
  have W6 : Wt w w5 v5 tl := by rw [HT.out]; simpa using W5
  clear W5
  have bl : tl.length ≤ 70368744177664 := by rw [HT.out]; simp only [List.length_append, List.length_singleton]; omega
  go_wp2_with fail
  refine (equal_any _ _ _ _ _ W6.own.rd (own_move ht W6.kept) bl).mono ?_
  rintro e w7 ⟨rfl, k7⟩
  go_wp2
  go_ret
  exact ⟨ret_bool (by simp), W6.kept.trans k7 (fun _ _ h => h) (fun _ _ h => h)⟩
end Go.Proofs.Qxb6603725a
