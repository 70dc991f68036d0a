/-
  THE LAW's WALK: FnSplitDecimalMatchesLongestAcceptedPrefix (7).
-/
import Derived.Test.Qxb6603725aWalkI5
namespace Go.Proofs.Qxb6603725a
open Go.RowKit
set_option maxRecDepth 100000

theorem zz19_t (a : Option Addr) (n c : Nat) (w : World) (h : n ≤ 1048576) : Calls Try.prog 19 #[.slice a n c] w fun e w' => e = .returned (.bool true) ∧ w = w' := by
  go_enter Try.func19, Try.ntmps19
  go_wp2
  go_ret
  exact ⟨rfl, rfl⟩
theorem zz19_f (a : Option Addr) (n c : Nat) (w : World) (h : ¬ n ≤ 1048576) : Calls Try.prog 19 #[.slice a n c] w fun e w' => e = .returned (.bool false) ∧ w = w' := by
  go_enter Try.func19, Try.ntmps19
  go_wp2
  go_ret
  exact ⟨rfl, rfl⟩
theorem law7_far (a : Option Addr) (n c : Nat) (w : World) (h : ¬ n ≤ 1048576) : Calls Try.prog 7 #[.slice a n c] w fun e w' => e = .returned (.bool true) ∧ w = w' := by
  go_enter Try.func7, Try.ntmps7
  go_wp2_with (go_at_call 19; refine (zz19_f _ _ _ _ h).mono ?_; rintro e w' ⟨rfl, rfl⟩)
  go_ret
  exact ⟨rfl, rfl⟩

theorem byt_at {l : List Int} (h : Byt l) (k : Nat) : 0 ≤ l.getD k 0 ∧ l.getD k 0 ≤ 255 := by
  by_cases hk : k < l.length
  · have : l.getD k 0 = l[k] := by simp [hk]
    rw [this]
    exact h _ (List.getElem_mem hk)
  · have : l.getD k 0 = 0 := by simp [Nat.le_of_not_lt hk]
    rw [this]; omega

/-- One round of the automaton. -/
theorem run_hit {l : List Int} {k : Nat} {x st : Int} {p : Nat} {sp : Int} (h : l[k]? = some x) (h0 : 0 ≤ st) (ha : acc (stp st x) = true) : run (l.drop k) k st p sp = run (l.drop (k + 1)) (k + 1) (stp st x) (k + 1) (stp st x) := by
  obtain ⟨hk, hx⟩ := List.getElem?_eq_some_iff.1 h
  rw [List.drop_eq_getElem_cons hk, hx]
  conv => lhs; unfold run
  rw [if_neg (by omega), if_pos ha]
theorem run_miss {l : List Int} {k : Nat} {x st : Int} {p : Nat} {sp : Int} (h : l[k]? = some x) (h0 : 0 ≤ st) (ha : acc (stp st x) = false) : run (l.drop k) k st p sp = run (l.drop (k + 1)) (k + 1) (stp st x) p sp := by
  obtain ⟨hk, hx⟩ := List.getElem?_eq_some_iff.1 h
  rw [List.drop_eq_getElem_cons hk, hx]
  conv => lhs; unfold run
  rw [if_neg (by omega), if_neg (by rw [ha]; decide)]
theorem run_over {l : List Int} {k : Nat} {st : Int} {p : Nat} {sp : Int} (h : l.length ≤ k) : run (l.drop k) k st p sp = (p, sp) := by
  rw [List.drop_eq_nil_of_le h]; rfl
theorem run_neg {l : List Int} {k : Nat} {st : Int} {p : Nat} {sp : Int} (h : st < 0) : run (l.drop k) k st p sp = (p, sp) := by
  cases l.drop k with
  | nil => rfl
  | cons c r => unfold run; rw [if_pos h]
theorem st_bounds (st c : Int) : -1 ≤ stp st c ∧ stp st c ≤ 5 := by
  rcases stp_range st c with h | h | h | h | h | h | h <;> omega
theorem found_zero {l : List Int} (h : at0 l = 0) : found l = (0, 0) := by unfold found; rw [if_pos h]
theorem found_bad {l : List Int} (h : at0 l ≠ 0) (hx : expo (l.drop (at1 l)) = some 0) : found l = (at1 l, if hasPt l then 2 else 1) := by unfold found; rw [if_neg h, hx]
theorem found_none {l : List Int} (h : at0 l ≠ 0) (hx : expo (l.drop (at1 l)) = none) : found l = (at1 l, if hasPt l then 2 else 1) := by unfold found; rw [if_neg h, hx]
theorem found_some {l : List Int} {q : Nat} (h : at0 l ≠ 0) (hq : 1 ≤ q) (hx : expo (l.drop (at1 l)) = some q) : found l = (at1 l + q, 5) := by
  unfold found
  rw [if_neg h, hx]
  cases q with
  | zero => omega
  | succ m => rfl

set_option maxHeartbeats 3200000 in
theorem law7_zero (a0 : Option Addr) (c0 n : Nat) (l : List Int) (w : World) (HN : Hid (l.length = n)) (i0 : In w (.slice a0 n c0) l) (hbyt : Byt l) (h1 : n ≤ 1048576) (hn1 : 1 ≤ n) (hz : Zc l) (hF : found l = (0, 0)) :
    Calls Try.prog 7 #[.slice a0 n c0] w fun e w' => e = .returned (.bool true) ∧ Below w.heap.size w w' := by
  have lm : l.length ≤ 1048576 := by rw [HN.out]; exact h1
  have HFF : Hid (found l = (0, 0)) := hF
  clear hF
  go_enter Try.func7, Try.ntmps7
  go_wp2_with (go_at_call 19; refine (zz19_t _ _ _ _ h1).mono ?_; rintro e w' ⟨rfl, rfl⟩)
  refine (clone_any _ l _ i0 lm).mono ?_
  rintro e wA ⟨vA, rfl, oA, bA, kA⟩
  obtain ⟨aA, cA, hvA⟩ := oA.rd.form
  have rA := oA.rd
  rw [HN.out] at hvA
  rw [hvA] at rA ⊢
  obtain ⟨g, o, haA, -, hnc, hcm, hg, hcell⟩ := rA.addr (by rw [HN.out]; exact hn1)
  rw [haA] at rA ⊢
  rw [HN.out] at hnc hcell
  clear hvA haA oA bA i0
  have HCE : Hid (∀ j, j < n → wA.cell? ⟨g, o + j, none⟩ = some (.int .u8 (l.getD j 0))) := hcell
  clear hcell
  go_wp2_with fail
  refine (zzsd_z _ l _ rA lm hz).mono ?_
  rintro e wB ⟨rfl, kB⟩
  have HC2 : Hid (∀ j, j < n → wB.cell? ⟨g, o + j, none⟩ = some (.int .u8 (l.getD j 0))) := fun j hj => by rw [kB.cell (p := ⟨g, o + j, none⟩) hg (fun h => h)]; exact HCE.out j hj
  have rB : Rd wB (.slice (some ⟨g, o, none⟩) n cA) l := rA.kept kB (fun _ _ h => h)
  have K0 : Kept (fun _ => False) w wB := kA.trans kB (fun _ _ h => h) (fun _ _ h => h)
  clear rA kA kB HCE
  go_wp2_with fail
  go_loop [8, 9, 10, 11] (fun P SP ST I => ∃ (k p : Nat) (st sp : Int), k ≤ n ∧ p ≤ k ∧ I = .int .i64 k ∧ P = .int .i64 p ∧ ST = .int .i64 st ∧ SP = .int .i64 sp ∧ -1 ≤ st ∧ st ≤ 5 ∧ found l = run (l.drop k) k st p sp) (fun _ _ _ I => n - (intOf I).toNat)
  case atStart => exact ⟨0, 0, 0, 0, Nat.zero_le _, Nat.le_refl _, rfl, rfl, rfl, rfl, by omega, by omega, by rw [List.drop_zero]; exact (run_found l).symm⟩
  case round =>
    obtain ⟨k, p, st, sp, hk, hpk, rfl, rfl, rfl, rfl, hst0, hst1, hrun⟩ := hrel
    have HRU : Hid (found l = run (l.drop k) k st p sp) := hrun
    clear hrun
    by_cases hgo : k < n ∧ 0 ≤ st
    · obtain ⟨hlt, hst⟩ := hgo
      have hc := HC2.out k hlt
      have HC := hid_get l k (by rw [HN.out]; exact hlt)
      have hb := byt_at hbyt k
      generalize l.getD k 0 = x at hc HC hb
      obtain ⟨hb0, hb1⟩ := hb
      go_wp2_with fail
      refine (step_any st x _ (by omega) hb0 hb1).mono ?_
      rintro e w' ⟨rfl, rfl⟩
      have hsb := st_bounds st x
      have hsr := stp_range st x
      have HH := @run_hit l k x st p sp HC.out hst
      have HM := @run_miss l k x st p sp HC.out hst
      generalize stp st x = y at hsb hsr HH HM ⊢
      have HHH : Hid (acc y = true → run (l.drop k) k st p sp = run (l.drop (k + 1)) (k + 1) y (k + 1) y) := HH
      have HMM : Hid (acc y = false → run (l.drop k) k st p sp = run (l.drop (k + 1)) (k + 1) y p sp) := HM
      have HSR : Hid (y = -1 ∨ y = 0 ∨ y = 1 ∨ y = 2 ∨ y = 3 ∨ y = 4 ∨ y = 5) := hsr
      obtain ⟨hs0, hs1⟩ := hsb
      clear HH HM hsr
      go_wp2_with fail
      refine (acc_any y _ HSR.out).mono ?_
      rintro e w' ⟨rfl, rfl⟩
      cases hacc : acc y with
      | true =>
        have HA : Hid (acc y = true) := hacc
        clear hacc
        go_wp2
        go_round
        case rel => exact ⟨k + 1, k + 1, y, y, by omega, by omega, by go_num, by go_num, rfl, rfl, hs0, hs1, by rw [HRU.out]; exact HHH.out HA.out⟩
        case measure => simp [intOf]; omega
      | false =>
        have HA : Hid (acc y = false) := hacc
        clear hacc
        go_wp2
        go_round
        case rel => exact ⟨k + 1, p, y, sp, by omega, by omega, by go_num, rfl, rfl, rfl, hs0, hs1, by rw [HRU.out]; exact HMM.out HA.out⟩
        case measure => simp [intOf]; omega
    · have hend : (p, sp) = (0, 0) := by
        rw [← HFF.out, HRU.out]
        by_cases h : k < n
        · rw [run_neg (by omega)]
        · rw [run_over (by rw [HN.out]; omega)]
      obtain ⟨hpe, hse⟩ := Prod.mk.inj hend
      subst hpe
      subst hse
      clear hend
      by_cases hlt : k < n
      · have hneg : st < 0 := by omega
        clear hgo
        go_wp2
        go_ret
        exact ⟨rfl, K0.below (Nat.le_refl _) (fun _ _ h => h)⟩
      · clear hgo
        go_wp2
        go_ret
        exact ⟨rfl, K0.below (Nat.le_refl _) (fun _ _ h => h)⟩

set_option maxHeartbeats 3200000 in
theorem law7_bad_1_101 (a0 : Option Addr) (c0 n : Nat) (l : List Int) (w : World) (HN : Hid (l.length = n)) (i0 : In w (.slice a0 n c0) l) (hbyt : Byt l) (h1 : n ≤ 1048576) (hn1 : 1 ≤ n) (pF : Nat) (hz : Zc l) (hF : found l = (pF, 1)) (hp1 : 1 ≤ pF) (hpn : pF < n) (hch : Hid (l.getD pF 0 = 101)) :
    Calls Try.prog 7 #[.slice a0 n c0] w fun e w' => e = .returned (.bool true) ∧ Below w.heap.size w w' := by
  have lm : l.length ≤ 1048576 := by rw [HN.out]; exact h1
  have HFF : Hid (found l = (pF, 1)) := hF
  clear hF
  go_enter Try.func7, Try.ntmps7
  go_wp2_with (go_at_call 19; refine (zz19_t _ _ _ _ h1).mono ?_; rintro e w' ⟨rfl, rfl⟩)
  refine (clone_any _ l _ i0 lm).mono ?_
  rintro e wA ⟨vA, rfl, oA, bA, kA⟩
  obtain ⟨aA, cA, hvA⟩ := oA.rd.form
  have rA := oA.rd
  rw [HN.out] at hvA
  rw [hvA] at rA ⊢
  obtain ⟨g, o, haA, -, hnc, hcm, hg, hcell⟩ := rA.addr (by rw [HN.out]; exact hn1)
  rw [haA] at rA ⊢
  rw [HN.out] at hnc hcell
  clear hvA haA oA bA i0
  have HCE : Hid (∀ j, j < n → wA.cell? ⟨g, o + j, none⟩ = some (.int .u8 (l.getD j 0))) := hcell
  clear hcell
  go_wp2_with fail
  refine (zzsd_z _ l _ rA lm hz).mono ?_
  rintro e wB ⟨rfl, kB⟩
  have HC2 : Hid (∀ j, j < n → wB.cell? ⟨g, o + j, none⟩ = some (.int .u8 (l.getD j 0))) := fun j hj => by rw [kB.cell (p := ⟨g, o + j, none⟩) hg (fun h => h)]; exact HCE.out j hj
  have rB : Rd wB (.slice (some ⟨g, o, none⟩) n cA) l := rA.kept kB (fun _ _ h => h)
  have K0 : Kept (fun _ => False) w wB := kA.trans kB (fun _ _ h => h) (fun _ _ h => h)
  clear rA kA kB HCE
  go_wp2_with fail
  go_loop [8, 9, 10, 11] (fun P SP ST I => ∃ (k p : Nat) (st sp : Int), k ≤ n ∧ p ≤ k ∧ I = .int .i64 k ∧ P = .int .i64 p ∧ ST = .int .i64 st ∧ SP = .int .i64 sp ∧ -1 ≤ st ∧ st ≤ 5 ∧ found l = run (l.drop k) k st p sp) (fun _ _ _ I => n - (intOf I).toNat)
  case atStart => exact ⟨0, 0, 0, 0, Nat.zero_le _, Nat.le_refl _, rfl, rfl, rfl, rfl, by omega, by omega, by rw [List.drop_zero]; exact (run_found l).symm⟩
  case round =>
    obtain ⟨k, p, st, sp, hk, hpk, rfl, rfl, rfl, rfl, hst0, hst1, hrun⟩ := hrel
    have HRU : Hid (found l = run (l.drop k) k st p sp) := hrun
    clear hrun
    by_cases hgo : k < n ∧ 0 ≤ st
    · obtain ⟨hlt, hst⟩ := hgo
      have hc := HC2.out k hlt
      have HC := hid_get l k (by rw [HN.out]; exact hlt)
      have hb := byt_at hbyt k
      generalize l.getD k 0 = x at hc HC hb
      obtain ⟨hb0, hb1⟩ := hb
      go_wp2_with fail
      refine (step_any st x _ (by omega) hb0 hb1).mono ?_
      rintro e w' ⟨rfl, rfl⟩
      have hsb := st_bounds st x
      have hsr := stp_range st x
      have HH := @run_hit l k x st p sp HC.out hst
      have HM := @run_miss l k x st p sp HC.out hst
      generalize stp st x = y at hsb hsr HH HM ⊢
      have HHH : Hid (acc y = true → run (l.drop k) k st p sp = run (l.drop (k + 1)) (k + 1) y (k + 1) y) := HH
      have HMM : Hid (acc y = false → run (l.drop k) k st p sp = run (l.drop (k + 1)) (k + 1) y p sp) := HM
      have HSR : Hid (y = -1 ∨ y = 0 ∨ y = 1 ∨ y = 2 ∨ y = 3 ∨ y = 4 ∨ y = 5) := hsr
      obtain ⟨hs0, hs1⟩ := hsb
      clear HH HM hsr
      go_wp2_with fail
      refine (acc_any y _ HSR.out).mono ?_
      rintro e w' ⟨rfl, rfl⟩
      cases hacc : acc y with
      | true =>
        have HA : Hid (acc y = true) := hacc
        clear hacc
        go_wp2
        go_round
        case rel => exact ⟨k + 1, k + 1, y, y, by omega, by omega, by go_num, by go_num, rfl, rfl, hs0, hs1, by rw [HRU.out]; exact HHH.out HA.out⟩
        case measure => simp [intOf]; omega
      | false =>
        have HA : Hid (acc y = false) := hacc
        clear hacc
        go_wp2
        go_round
        case rel => exact ⟨k + 1, p, y, sp, by omega, by omega, by go_num, rfl, rfl, rfl, hs0, hs1, by rw [HRU.out]; exact HMM.out HA.out⟩
        case measure => simp [intOf]; omega
    · have hend : (p, sp) = (pF, 1) := by
        rw [← HFF.out, HRU.out]
        by_cases h : k < n
        · rw [run_neg (by omega)]
        · rw [run_over (by rw [HN.out]; omega)]
      obtain ⟨hpe, hse⟩ := Prod.mk.inj hend
      subst hpe
      subst hse
      clear hend
      by_cases hlt : k < n
      · have hneg : st < 0 := by omega
        clear hgo
        have hcp := HC2.out p hpn
        rw [hch.out] at hcp
        have q0 : ((p : Int) == 0) = false := by simp; omega
        go_wp2
        go_ret
        exact ⟨rfl, K0.below (Nat.le_refl _) (fun _ _ h => h)⟩
      · clear hgo
        have hcp := HC2.out p hpn
        rw [hch.out] at hcp
        have q0 : ((p : Int) == 0) = false := by simp; omega
        go_wp2
        go_ret
        exact ⟨rfl, K0.below (Nat.le_refl _) (fun _ _ h => h)⟩

set_option maxHeartbeats 3200000 in
theorem law7_bad_1_69 (a0 : Option Addr) (c0 n : Nat) (l : List Int) (w : World) (HN : Hid (l.length = n)) (i0 : In w (.slice a0 n c0) l) (hbyt : Byt l) (h1 : n ≤ 1048576) (hn1 : 1 ≤ n) (pF : Nat) (hz : Zc l) (hF : found l = (pF, 1)) (hp1 : 1 ≤ pF) (hpn : pF < n) (hch : Hid (l.getD pF 0 = 69)) :
    Calls Try.prog 7 #[.slice a0 n c0] w fun e w' => e = .returned (.bool true) ∧ Below w.heap.size w w' := by
  have lm : l.length ≤ 1048576 := by rw [HN.out]; exact h1
  have HFF : Hid (found l = (pF, 1)) := hF
  clear hF
  go_enter Try.func7, Try.ntmps7
  go_wp2_with (go_at_call 19; refine (zz19_t _ _ _ _ h1).mono ?_; rintro e w' ⟨rfl, rfl⟩)
  refine (clone_any _ l _ i0 lm).mono ?_
  rintro e wA ⟨vA, rfl, oA, bA, kA⟩
  obtain ⟨aA, cA, hvA⟩ := oA.rd.form
  have rA := oA.rd
  rw [HN.out] at hvA
  rw [hvA] at rA ⊢
  obtain ⟨g, o, haA, -, hnc, hcm, hg, hcell⟩ := rA.addr (by rw [HN.out]; exact hn1)
  rw [haA] at rA ⊢
  rw [HN.out] at hnc hcell
  clear hvA haA oA bA i0
  have HCE : Hid (∀ j, j < n → wA.cell? ⟨g, o + j, none⟩ = some (.int .u8 (l.getD j 0))) := hcell
  clear hcell
  go_wp2_with fail
  refine (zzsd_z _ l _ rA lm hz).mono ?_
  rintro e wB ⟨rfl, kB⟩
  have HC2 : Hid (∀ j, j < n → wB.cell? ⟨g, o + j, none⟩ = some (.int .u8 (l.getD j 0))) := fun j hj => by rw [kB.cell (p := ⟨g, o + j, none⟩) hg (fun h => h)]; exact HCE.out j hj
  have rB : Rd wB (.slice (some ⟨g, o, none⟩) n cA) l := rA.kept kB (fun _ _ h => h)
  have K0 : Kept (fun _ => False) w wB := kA.trans kB (fun _ _ h => h) (fun _ _ h => h)
  clear rA kA kB HCE
  go_wp2_with fail
  go_loop [8, 9, 10, 11] (fun P SP ST I => ∃ (k p : Nat) (st sp : Int), k ≤ n ∧ p ≤ k ∧ I = .int .i64 k ∧ P = .int .i64 p ∧ ST = .int .i64 st ∧ SP = .int .i64 sp ∧ -1 ≤ st ∧ st ≤ 5 ∧ found l = run (l.drop k) k st p sp) (fun _ _ _ I => n - (intOf I).toNat)
  case atStart => exact ⟨0, 0, 0, 0, Nat.zero_le _, Nat.le_refl _, rfl, rfl, rfl, rfl, by omega, by omega, by rw [List.drop_zero]; exact (run_found l).symm⟩
  case round =>
    obtain ⟨k, p, st, sp, hk, hpk, rfl, rfl, rfl, rfl, hst0, hst1, hrun⟩ := hrel
    have HRU : Hid (found l = run (l.drop k) k st p sp) := hrun
    clear hrun
    by_cases hgo : k < n ∧ 0 ≤ st
    · obtain ⟨hlt, hst⟩ := hgo
      have hc := HC2.out k hlt
      have HC := hid_get l k (by rw [HN.out]; exact hlt)
      have hb := byt_at hbyt k
      generalize l.getD k 0 = x at hc HC hb
      obtain ⟨hb0, hb1⟩ := hb
      go_wp2_with fail
      refine (step_any st x _ (by omega) hb0 hb1).mono ?_
      rintro e w' ⟨rfl, rfl⟩
      have hsb := st_bounds st x
      have hsr := stp_range st x
      have HH := @run_hit l k x st p sp HC.out hst
      have HM := @run_miss l k x st p sp HC.out hst
      generalize stp st x = y at hsb hsr HH HM ⊢
      have HHH : Hid (acc y = true → run (l.drop k) k st p sp = run (l.drop (k + 1)) (k + 1) y (k + 1) y) := HH
      have HMM : Hid (acc y = false → run (l.drop k) k st p sp = run (l.drop (k + 1)) (k + 1) y p sp) := HM
      have HSR : Hid (y = -1 ∨ y = 0 ∨ y = 1 ∨ y = 2 ∨ y = 3 ∨ y = 4 ∨ y = 5) := hsr
      obtain ⟨hs0, hs1⟩ := hsb
      clear HH HM hsr
      go_wp2_with fail
      refine (acc_any y _ HSR.out).mono ?_
      rintro e w' ⟨rfl, rfl⟩
      cases hacc : acc y with
      | true =>
        have HA : Hid (acc y = true) := hacc
        clear hacc
        go_wp2
        go_round
        case rel => exact ⟨k + 1, k + 1, y, y, by omega, by omega, by go_num, by go_num, rfl, rfl, hs0, hs1, by rw [HRU.out]; exact HHH.out HA.out⟩
        case measure => simp [intOf]; omega
      | false =>
        have HA : Hid (acc y = false) := hacc
        clear hacc
        go_wp2
        go_round
        case rel => exact ⟨k + 1, p, y, sp, by omega, by omega, by go_num, rfl, rfl, rfl, hs0, hs1, by rw [HRU.out]; exact HMM.out HA.out⟩
        case measure => simp [intOf]; omega
    · have hend : (p, sp) = (pF, 1) := by
        rw [← HFF.out, HRU.out]
        by_cases h : k < n
        · rw [run_neg (by omega)]
        · rw [run_over (by rw [HN.out]; omega)]
      obtain ⟨hpe, hse⟩ := Prod.mk.inj hend
      subst hpe
      subst hse
      clear hend
      by_cases hlt : k < n
      · have hneg : st < 0 := by omega
        clear hgo
        have hcp := HC2.out p hpn
        rw [hch.out] at hcp
        have q0 : ((p : Int) == 0) = false := by simp; omega
        go_wp2
        go_ret
        exact ⟨rfl, K0.below (Nat.le_refl _) (fun _ _ h => h)⟩
      · clear hgo
        have hcp := HC2.out p hpn
        rw [hch.out] at hcp
        have q0 : ((p : Int) == 0) = false := by simp; omega
        go_wp2
        go_ret
        exact ⟨rfl, K0.below (Nat.le_refl _) (fun _ _ h => h)⟩

set_option maxHeartbeats 3200000 in
theorem law7_bad_2_101 (a0 : Option Addr) (c0 n : Nat) (l : List Int) (w : World) (HN : Hid (l.length = n)) (i0 : In w (.slice a0 n c0) l) (hbyt : Byt l) (h1 : n ≤ 1048576) (hn1 : 1 ≤ n) (pF : Nat) (hz : Zc l) (hF : found l = (pF, 2)) (hp1 : 1 ≤ pF) (hpn : pF < n) (hch : Hid (l.getD pF 0 = 101)) :
    Calls Try.prog 7 #[.slice a0 n c0] w fun e w' => e = .returned (.bool true) ∧ Below w.heap.size w w' := by
  have lm : l.length ≤ 1048576 := by rw [HN.out]; exact h1
  have HFF : Hid (found l = (pF, 2)) := hF
  clear hF
  go_enter Try.func7, Try.ntmps7
  go_wp2_with (go_at_call 19; refine (zz19_t _ _ _ _ h1).mono ?_; rintro e w' ⟨rfl, rfl⟩)
  refine (clone_any _ l _ i0 lm).mono ?_
  rintro e wA ⟨vA, rfl, oA, bA, kA⟩
  obtain ⟨aA, cA, hvA⟩ := oA.rd.form
  have rA := oA.rd
  rw [HN.out] at hvA
  rw [hvA] at rA ⊢
  obtain ⟨g, o, haA, -, hnc, hcm, hg, hcell⟩ := rA.addr (by rw [HN.out]; exact hn1)
  rw [haA] at rA ⊢
  rw [HN.out] at hnc hcell
  clear hvA haA oA bA i0
  have HCE : Hid (∀ j, j < n → wA.cell? ⟨g, o + j, none⟩ = some (.int .u8 (l.getD j 0))) := hcell
  clear hcell
  go_wp2_with fail
  refine (zzsd_z _ l _ rA lm hz).mono ?_
  rintro e wB ⟨rfl, kB⟩
  have HC2 : Hid (∀ j, j < n → wB.cell? ⟨g, o + j, none⟩ = some (.int .u8 (l.getD j 0))) := fun j hj => by rw [kB.cell (p := ⟨g, o + j, none⟩) hg (fun h => h)]; exact HCE.out j hj
  have rB : Rd wB (.slice (some ⟨g, o, none⟩) n cA) l := rA.kept kB (fun _ _ h => h)
  have K0 : Kept (fun _ => False) w wB := kA.trans kB (fun _ _ h => h) (fun _ _ h => h)
  clear rA kA kB HCE
  go_wp2_with fail
  go_loop [8, 9, 10, 11] (fun P SP ST I => ∃ (k p : Nat) (st sp : Int), k ≤ n ∧ p ≤ k ∧ I = .int .i64 k ∧ P = .int .i64 p ∧ ST = .int .i64 st ∧ SP = .int .i64 sp ∧ -1 ≤ st ∧ st ≤ 5 ∧ found l = run (l.drop k) k st p sp) (fun _ _ _ I => n - (intOf I).toNat)
  case atStart => exact ⟨0, 0, 0, 0, Nat.zero_le _, Nat.le_refl _, rfl, rfl, rfl, rfl, by omega, by omega, by rw [List.drop_zero]; exact (run_found l).symm⟩
  case round =>
    obtain ⟨k, p, st, sp, hk, hpk, rfl, rfl, rfl, rfl, hst0, hst1, hrun⟩ := hrel
    have HRU : Hid (found l = run (l.drop k) k st p sp) := hrun
    clear hrun
    by_cases hgo : k < n ∧ 0 ≤ st
    · obtain ⟨hlt, hst⟩ := hgo
      have hc := HC2.out k hlt
      have HC := hid_get l k (by rw [HN.out]; exact hlt)
      have hb := byt_at hbyt k
      generalize l.getD k 0 = x at hc HC hb
      obtain ⟨hb0, hb1⟩ := hb
      go_wp2_with fail
      refine (step_any st x _ (by omega) hb0 hb1).mono ?_
      rintro e w' ⟨rfl, rfl⟩
      have hsb := st_bounds st x
      have hsr := stp_range st x
      have HH := @run_hit l k x st p sp HC.out hst
      have HM := @run_miss l k x st p sp HC.out hst
      generalize stp st x = y at hsb hsr HH HM ⊢
      have HHH : Hid (acc y = true → run (l.drop k) k st p sp = run (l.drop (k + 1)) (k + 1) y (k + 1) y) := HH
      have HMM : Hid (acc y = false → run (l.drop k) k st p sp = run (l.drop (k + 1)) (k + 1) y p sp) := HM
      have HSR : Hid (y = -1 ∨ y = 0 ∨ y = 1 ∨ y = 2 ∨ y = 3 ∨ y = 4 ∨ y = 5) := hsr
      obtain ⟨hs0, hs1⟩ := hsb
      clear HH HM hsr
      go_wp2_with fail
      refine (acc_any y _ HSR.out).mono ?_
      rintro e w' ⟨rfl, rfl⟩
      cases hacc : acc y with
      | true =>
        have HA : Hid (acc y = true) := hacc
        clear hacc
        go_wp2
        go_round
        case rel => exact ⟨k + 1, k + 1, y, y, by omega, by omega, by go_num, by go_num, rfl, rfl, hs0, hs1, by rw [HRU.out]; exact HHH.out HA.out⟩
        case measure => simp [intOf]; omega
      | false =>
        have HA : Hid (acc y = false) := hacc
        clear hacc
        go_wp2
        go_round
        case rel => exact ⟨k + 1, p, y, sp, by omega, by omega, by go_num, rfl, rfl, rfl, hs0, hs1, by rw [HRU.out]; exact HMM.out HA.out⟩
        case measure => simp [intOf]; omega
    · have hend : (p, sp) = (pF, 2) := by
        rw [← HFF.out, HRU.out]
        by_cases h : k < n
        · rw [run_neg (by omega)]
        · rw [run_over (by rw [HN.out]; omega)]
      obtain ⟨hpe, hse⟩ := Prod.mk.inj hend
      subst hpe
      subst hse
      clear hend
      by_cases hlt : k < n
      · have hneg : st < 0 := by omega
        clear hgo
        have hcp := HC2.out p hpn
        rw [hch.out] at hcp
        have q0 : ((p : Int) == 0) = false := by simp; omega
        go_wp2
        go_ret
        exact ⟨rfl, K0.below (Nat.le_refl _) (fun _ _ h => h)⟩
      · clear hgo
        have hcp := HC2.out p hpn
        rw [hch.out] at hcp
        have q0 : ((p : Int) == 0) = false := by simp; omega
        go_wp2
        go_ret
        exact ⟨rfl, K0.below (Nat.le_refl _) (fun _ _ h => h)⟩

set_option maxHeartbeats 3200000 in
theorem law7_bad_2_69 (a0 : Option Addr) (c0 n : Nat) (l : List Int) (w : World) (HN : Hid (l.length = n)) (i0 : In w (.slice a0 n c0) l) (hbyt : Byt l) (h1 : n ≤ 1048576) (hn1 : 1 ≤ n) (pF : Nat) (hz : Zc l) (hF : found l = (pF, 2)) (hp1 : 1 ≤ pF) (hpn : pF < n) (hch : Hid (l.getD pF 0 = 69)) :
    Calls Try.prog 7 #[.slice a0 n c0] w fun e w' => e = .returned (.bool true) ∧ Below w.heap.size w w' := by
  have lm : l.length ≤ 1048576 := by rw [HN.out]; exact h1
  have HFF : Hid (found l = (pF, 2)) := hF
  clear hF
  go_enter Try.func7, Try.ntmps7
  go_wp2_with (go_at_call 19; refine (zz19_t _ _ _ _ h1).mono ?_; rintro e w' ⟨rfl, rfl⟩)
  refine (clone_any _ l _ i0 lm).mono ?_
  rintro e wA ⟨vA, rfl, oA, bA, kA⟩
  obtain ⟨aA, cA, hvA⟩ := oA.rd.form
  have rA := oA.rd
  rw [HN.out] at hvA
  rw [hvA] at rA ⊢
  obtain ⟨g, o, haA, -, hnc, hcm, hg, hcell⟩ := rA.addr (by rw [HN.out]; exact hn1)
  rw [haA] at rA ⊢
  rw [HN.out] at hnc hcell
  clear hvA haA oA bA i0
  have HCE : Hid (∀ j, j < n → wA.cell? ⟨g, o + j, none⟩ = some (.int .u8 (l.getD j 0))) := hcell
  clear hcell
  go_wp2_with fail
  refine (zzsd_z _ l _ rA lm hz).mono ?_
  rintro e wB ⟨rfl, kB⟩
  have HC2 : Hid (∀ j, j < n → wB.cell? ⟨g, o + j, none⟩ = some (.int .u8 (l.getD j 0))) := fun j hj => by rw [kB.cell (p := ⟨g, o + j, none⟩) hg (fun h => h)]; exact HCE.out j hj
  have rB : Rd wB (.slice (some ⟨g, o, none⟩) n cA) l := rA.kept kB (fun _ _ h => h)
  have K0 : Kept (fun _ => False) w wB := kA.trans kB (fun _ _ h => h) (fun _ _ h => h)
  clear rA kA kB HCE
  go_wp2_with fail
  go_loop [8, 9, 10, 11] (fun P SP ST I => ∃ (k p : Nat) (st sp : Int), k ≤ n ∧ p ≤ k ∧ I = .int .i64 k ∧ P = .int .i64 p ∧ ST = .int .i64 st ∧ SP = .int .i64 sp ∧ -1 ≤ st ∧ st ≤ 5 ∧ found l = run (l.drop k) k st p sp) (fun _ _ _ I => n - (intOf I).toNat)
  case atStart => exact ⟨0, 0, 0, 0, Nat.zero_le _, Nat.le_refl _, rfl, rfl, rfl, rfl, by omega, by omega, by rw [List.drop_zero]; exact (run_found l).symm⟩
  case round =>
    obtain ⟨k, p, st, sp, hk, hpk, rfl, rfl, rfl, rfl, hst0, hst1, hrun⟩ := hrel
    have HRU : Hid (found l = run (l.drop k) k st p sp) := hrun
    clear hrun
    by_cases hgo : k < n ∧ 0 ≤ st
    · obtain ⟨hlt, hst⟩ := hgo
      have hc := HC2.out k hlt
      have HC := hid_get l k (by rw [HN.out]; exact hlt)
      have hb := byt_at hbyt k
      generalize l.getD k 0 = x at hc HC hb
      obtain ⟨hb0, hb1⟩ := hb
      go_wp2_with fail
      refine (step_any st x _ (by omega) hb0 hb1).mono ?_
      rintro e w' ⟨rfl, rfl⟩
      have hsb := st_bounds st x
      have hsr := stp_range st x
      have HH := @run_hit l k x st p sp HC.out hst
      have HM := @run_miss l k x st p sp HC.out hst
      generalize stp st x = y at hsb hsr HH HM ⊢
      have HHH : Hid (acc y = true → run (l.drop k) k st p sp = run (l.drop (k + 1)) (k + 1) y (k + 1) y) := HH
      have HMM : Hid (acc y = false → run (l.drop k) k st p sp = run (l.drop (k + 1)) (k + 1) y p sp) := HM
      have HSR : Hid (y = -1 ∨ y = 0 ∨ y = 1 ∨ y = 2 ∨ y = 3 ∨ y = 4 ∨ y = 5) := hsr
      obtain ⟨hs0, hs1⟩ := hsb
      clear HH HM hsr
      go_wp2_with fail
      refine (acc_any y _ HSR.out).mono ?_
      rintro e w' ⟨rfl, rfl⟩
      cases hacc : acc y with
      | true =>
        have HA : Hid (acc y = true) := hacc
        clear hacc
        go_wp2
        go_round
        case rel => exact ⟨k + 1, k + 1, y, y, by omega, by omega, by go_num, by go_num, rfl, rfl, hs0, hs1, by rw [HRU.out]; exact HHH.out HA.out⟩
        case measure => simp [intOf]; omega
      | false =>
        have HA : Hid (acc y = false) := hacc
        clear hacc
        go_wp2
        go_round
        case rel => exact ⟨k + 1, p, y, sp, by omega, by omega, by go_num, rfl, rfl, rfl, hs0, hs1, by rw [HRU.out]; exact HMM.out HA.out⟩
        case measure => simp [intOf]; omega
    · have hend : (p, sp) = (pF, 2) := by
        rw [← HFF.out, HRU.out]
        by_cases h : k < n
        · rw [run_neg (by omega)]
        · rw [run_over (by rw [HN.out]; omega)]
      obtain ⟨hpe, hse⟩ := Prod.mk.inj hend
      subst hpe
      subst hse
      clear hend
      by_cases hlt : k < n
      · have hneg : st < 0 := by omega
        clear hgo
        have hcp := HC2.out p hpn
        rw [hch.out] at hcp
        have q0 : ((p : Int) == 0) = false := by simp; omega
        go_wp2
        go_ret
        exact ⟨rfl, K0.below (Nat.le_refl _) (fun _ _ h => h)⟩
      · clear hgo
        have hcp := HC2.out p hpn
        rw [hch.out] at hcp
        have q0 : ((p : Int) == 0) = false := by simp; omega
        go_wp2
        go_ret
        exact ⟨rfl, K0.below (Nat.le_refl _) (fun _ _ h => h)⟩

set_option maxHeartbeats 3200000 in
theorem law7_full (a0 : Option Addr) (c0 n : Nat) (l : List Int) (w : World) (HN : Hid (l.length = n)) (i0 : In w (.slice a0 n c0) l) (hbyt : Byt l) (h1 : n ≤ 1048576) (hn1 : 1 ≤ n) (pF : Nat) (sF : Int) (hs : Sc l pF) (hF : found l = (pF, sF)) (hp1 : 1 ≤ pF) (hpn1 : pF ≤ n) (hpn2 : n ≤ pF) :
    Calls Try.prog 7 #[.slice a0 n c0] w fun e w' => e = .returned (.bool true) ∧ Below w.heap.size w w' := by
  have lm : l.length ≤ 1048576 := by rw [HN.out]; exact h1
  have HFF : Hid (found l = (pF, sF)) := hF
  clear hF
  go_enter Try.func7, Try.ntmps7
  go_wp2_with (go_at_call 19; refine (zz19_t _ _ _ _ h1).mono ?_; rintro e w' ⟨rfl, rfl⟩)
  refine (clone_any _ l _ i0 lm).mono ?_
  rintro e wA ⟨vA, rfl, oA, bA, kA⟩
  obtain ⟨aA, cA, hvA⟩ := oA.rd.form
  have rA := oA.rd
  rw [HN.out] at hvA
  rw [hvA] at rA ⊢
  obtain ⟨g, o, haA, -, hnc, hcm, hg, hcell⟩ := rA.addr (by rw [HN.out]; exact hn1)
  rw [haA] at rA ⊢
  rw [HN.out] at hnc hcell
  clear hvA haA oA bA i0
  have HCE : Hid (∀ j, j < n → wA.cell? ⟨g, o + j, none⟩ = some (.int .u8 (l.getD j 0))) := hcell
  clear hcell
  go_wp2_with fail
  refine (zzsd_s _ l pF _ rA lm hs).mono ?_
  rintro e wB ⟨⟨W, F, E, rfl, rW, rF, rE⟩, kB⟩
  obtain ⟨aW, cW, hW⟩ := rW.form
  obtain ⟨aF, cF, hvF⟩ := rF.form
  obtain ⟨aE, cE, hvE⟩ := rE.form
  have hW1 : 1 ≤ (l.take (at0 l)).length := by rw [List.length_take]; have := at0_le l; have := HN.out; have := hs.1; omega
  have SPL := fun (vt : Value) (ht : Rd wB vt (l.take pF)) => isSplit_any vt W F E l pF wB hs lm ht rW rF rE
  generalize (l.take (at0 l)).length = nW at hW hW1
  generalize ((l.take (at1 l)).drop (at0 l + 1)).length = nF at hvF
  generalize ((l.take pF).drop (at1 l + 1)).length = nE at hvE
  generalize hasPt l = pt at SPL ⊢
  rw [hW, hvF, hvE] at SPL ⊢
  have HSP : Hid (∀ (vt : Value), Rd wB vt (l.take pF) → Calls Try.prog 23 #[vt, .slice aW nW cW, .bool pt, .slice aF nF cF, .slice aE nE cE] wB fun e w' => e = .returned (.bool true) ∧ Kept (fun _ => False) wB w') := SPL
  clear SPL rW rF rE hW hvF hvE
  rw [show decide (pF = l.length) = true by rw [HN.out]; simp; try omega]
  have qW : ((nW : Int) == 0) = false := by simp; omega
  have HC2 : Hid (∀ j, j < n → wB.cell? ⟨g, o + j, none⟩ = some (.int .u8 (l.getD j 0))) := fun j hj => by rw [kB.cell (p := ⟨g, o + j, none⟩) hg (fun h => h)]; exact HCE.out j hj
  have rB : Rd wB (.slice (some ⟨g, o, none⟩) n cA) l := rA.kept kB (fun _ _ h => h)
  have K0 : Kept (fun _ => False) w wB := kA.trans kB (fun _ _ h => h) (fun _ _ h => h)
  clear rA kA kB HCE
  go_wp2_with fail
  go_loop [8, 9, 10, 11] (fun P SP ST I => ∃ (k p : Nat) (st sp : Int), k ≤ n ∧ p ≤ k ∧ I = .int .i64 k ∧ P = .int .i64 p ∧ ST = .int .i64 st ∧ SP = .int .i64 sp ∧ -1 ≤ st ∧ st ≤ 5 ∧ found l = run (l.drop k) k st p sp) (fun _ _ _ I => n - (intOf I).toNat)
  case atStart => exact ⟨0, 0, 0, 0, Nat.zero_le _, Nat.le_refl _, rfl, rfl, rfl, rfl, by omega, by omega, by rw [List.drop_zero]; exact (run_found l).symm⟩
  case round =>
    obtain ⟨k, p, st, sp, hk, hpk, rfl, rfl, rfl, rfl, hst0, hst1, hrun⟩ := hrel
    have HRU : Hid (found l = run (l.drop k) k st p sp) := hrun
    clear hrun
    by_cases hgo : k < n ∧ 0 ≤ st
    · obtain ⟨hlt, hst⟩ := hgo
      have hc := HC2.out k hlt
      have HC := hid_get l k (by rw [HN.out]; exact hlt)
      have hb := byt_at hbyt k
      generalize l.getD k 0 = x at hc HC hb
      obtain ⟨hb0, hb1⟩ := hb
      go_wp2_with fail
      refine (step_any st x _ (by omega) hb0 hb1).mono ?_
      rintro e w' ⟨rfl, rfl⟩
      have hsb := st_bounds st x
      have hsr := stp_range st x
      have HH := @run_hit l k x st p sp HC.out hst
      have HM := @run_miss l k x st p sp HC.out hst
      generalize stp st x = y at hsb hsr HH HM ⊢
      have HHH : Hid (acc y = true → run (l.drop k) k st p sp = run (l.drop (k + 1)) (k + 1) y (k + 1) y) := HH
      have HMM : Hid (acc y = false → run (l.drop k) k st p sp = run (l.drop (k + 1)) (k + 1) y p sp) := HM
      have HSR : Hid (y = -1 ∨ y = 0 ∨ y = 1 ∨ y = 2 ∨ y = 3 ∨ y = 4 ∨ y = 5) := hsr
      obtain ⟨hs0, hs1⟩ := hsb
      clear HH HM hsr
      go_wp2_with fail
      refine (acc_any y _ HSR.out).mono ?_
      rintro e w' ⟨rfl, rfl⟩
      cases hacc : acc y with
      | true =>
        have HA : Hid (acc y = true) := hacc
        clear hacc
        go_wp2
        go_round
        case rel => exact ⟨k + 1, k + 1, y, y, by omega, by omega, by go_num, by go_num, rfl, rfl, hs0, hs1, by rw [HRU.out]; exact HHH.out HA.out⟩
        case measure => simp [intOf]; omega
      | false =>
        have HA : Hid (acc y = false) := hacc
        clear hacc
        go_wp2
        go_round
        case rel => exact ⟨k + 1, p, y, sp, by omega, by omega, by go_num, rfl, rfl, rfl, hs0, hs1, by rw [HRU.out]; exact HMM.out HA.out⟩
        case measure => simp [intOf]; omega
    · have hend : (p, sp) = (pF, sF) := by
        rw [← HFF.out, HRU.out]
        by_cases h : k < n
        · rw [run_neg (by omega)]
        · rw [run_over (by rw [HN.out]; omega)]
      obtain ⟨hpe, hse⟩ := Prod.mk.inj hend
      subst hpe
      subst hse
      clear hend
      by_cases hlt : k < n
      · have hneg : st < 0 := by omega
        clear hgo
        exact absurd hlt (by omega)
      · clear hgo
        have q0 : ((p : Int) == 0) = false := by simp; omega
        have qn : ((p : Int) == (n : Int)) = true := by simp; omega
        have hpc : p ≤ cA := by omega
        have rT : Rd wB (.slice (some ⟨g, o, none⟩) p cA) (l.take p) := rB.cut 0 p (Nat.zero_le _) (by omega) _ (by simp)
        go_wp2_with fail
        refine (HSP.out _ rT).mono ?_
        rintro e w7 ⟨rfl, k7⟩
        go_wp2
        go_ret
        exact ⟨rfl, (K0.trans k7 (T := fun _ => False) (fun _ _ h => h) (fun _ _ h => h)).below (Nat.le_refl _) (fun _ _ h => h)⟩

set_option maxHeartbeats 3200000 in
theorem law7_part_1 (a0 : Option Addr) (c0 n : Nat) (l : List Int) (w : World) (HN : Hid (l.length = n)) (i0 : In w (.slice a0 n c0) l) (hbyt : Byt l) (h1 : n ≤ 1048576) (hn1 : 1 ≤ n) (pF : Nat) (hs : Sc l pF) (hF : found l = (pF, 1)) (hp1 : 1 ≤ pF) (hpn : pF < n) (n101 : (l.getD pF 0 == 101) = false) (n69 : (l.getD pF 0 == 69) = false) :
    Calls Try.prog 7 #[.slice a0 n c0] w fun e w' => e = .returned (.bool true) ∧ Below w.heap.size w w' := by
  have lm : l.length ≤ 1048576 := by rw [HN.out]; exact h1
  have HFF : Hid (found l = (pF, 1)) := hF
  clear hF
  go_enter Try.func7, Try.ntmps7
  go_wp2_with (go_at_call 19; refine (zz19_t _ _ _ _ h1).mono ?_; rintro e w' ⟨rfl, rfl⟩)
  refine (clone_any _ l _ i0 lm).mono ?_
  rintro e wA ⟨vA, rfl, oA, bA, kA⟩
  obtain ⟨aA, cA, hvA⟩ := oA.rd.form
  have rA := oA.rd
  rw [HN.out] at hvA
  rw [hvA] at rA ⊢
  obtain ⟨g, o, haA, -, hnc, hcm, hg, hcell⟩ := rA.addr (by rw [HN.out]; exact hn1)
  rw [haA] at rA ⊢
  rw [HN.out] at hnc hcell
  clear hvA haA oA bA i0
  have HCE : Hid (∀ j, j < n → wA.cell? ⟨g, o + j, none⟩ = some (.int .u8 (l.getD j 0))) := hcell
  clear hcell
  go_wp2_with fail
  refine (zzsd_s _ l pF _ rA lm hs).mono ?_
  rintro e wB ⟨⟨W, F, E, rfl, rW, rF, rE⟩, kB⟩
  obtain ⟨aW, cW, hW⟩ := rW.form
  obtain ⟨aF, cF, hvF⟩ := rF.form
  obtain ⟨aE, cE, hvE⟩ := rE.form
  have hW1 : 1 ≤ (l.take (at0 l)).length := by rw [List.length_take]; have := at0_le l; have := HN.out; have := hs.1; omega
  have SPL := fun (vt : Value) (ht : Rd wB vt (l.take pF)) => isSplit_any vt W F E l pF wB hs lm ht rW rF rE
  generalize (l.take (at0 l)).length = nW at hW hW1
  generalize ((l.take (at1 l)).drop (at0 l + 1)).length = nF at hvF
  generalize ((l.take pF).drop (at1 l + 1)).length = nE at hvE
  generalize hasPt l = pt at SPL ⊢
  rw [hW, hvF, hvE] at SPL ⊢
  have HSP : Hid (∀ (vt : Value), Rd wB vt (l.take pF) → Calls Try.prog 23 #[vt, .slice aW nW cW, .bool pt, .slice aF nF cF, .slice aE nE cE] wB fun e w' => e = .returned (.bool true) ∧ Kept (fun _ => False) wB w') := SPL
  clear SPL rW rF rE hW hvF hvE
  rw [show decide (pF = l.length) = false by rw [HN.out]; simp; try omega]
  have qW : ((nW : Int) == 0) = false := by simp; omega
  have HC2 : Hid (∀ j, j < n → wB.cell? ⟨g, o + j, none⟩ = some (.int .u8 (l.getD j 0))) := fun j hj => by rw [kB.cell (p := ⟨g, o + j, none⟩) hg (fun h => h)]; exact HCE.out j hj
  have rB : Rd wB (.slice (some ⟨g, o, none⟩) n cA) l := rA.kept kB (fun _ _ h => h)
  have K0 : Kept (fun _ => False) w wB := kA.trans kB (fun _ _ h => h) (fun _ _ h => h)
  clear rA kA kB HCE
  go_wp2_with fail
  go_loop [8, 9, 10, 11] (fun P SP ST I => ∃ (k p : Nat) (st sp : Int), k ≤ n ∧ p ≤ k ∧ I = .int .i64 k ∧ P = .int .i64 p ∧ ST = .int .i64 st ∧ SP = .int .i64 sp ∧ -1 ≤ st ∧ st ≤ 5 ∧ found l = run (l.drop k) k st p sp) (fun _ _ _ I => n - (intOf I).toNat)
  case atStart => exact ⟨0, 0, 0, 0, Nat.zero_le _, Nat.le_refl _, rfl, rfl, rfl, rfl, by omega, by omega, by rw [List.drop_zero]; exact (run_found l).symm⟩
  case round =>
    obtain ⟨k, p, st, sp, hk, hpk, rfl, rfl, rfl, rfl, hst0, hst1, hrun⟩ := hrel
    have HRU : Hid (found l = run (l.drop k) k st p sp) := hrun
    clear hrun
    by_cases hgo : k < n ∧ 0 ≤ st
    · obtain ⟨hlt, hst⟩ := hgo
      have hc := HC2.out k hlt
      have HC := hid_get l k (by rw [HN.out]; exact hlt)
      have hb := byt_at hbyt k
      generalize l.getD k 0 = x at hc HC hb
      obtain ⟨hb0, hb1⟩ := hb
      go_wp2_with fail
      refine (step_any st x _ (by omega) hb0 hb1).mono ?_
      rintro e w' ⟨rfl, rfl⟩
      have hsb := st_bounds st x
      have hsr := stp_range st x
      have HH := @run_hit l k x st p sp HC.out hst
      have HM := @run_miss l k x st p sp HC.out hst
      generalize stp st x = y at hsb hsr HH HM ⊢
      have HHH : Hid (acc y = true → run (l.drop k) k st p sp = run (l.drop (k + 1)) (k + 1) y (k + 1) y) := HH
      have HMM : Hid (acc y = false → run (l.drop k) k st p sp = run (l.drop (k + 1)) (k + 1) y p sp) := HM
      have HSR : Hid (y = -1 ∨ y = 0 ∨ y = 1 ∨ y = 2 ∨ y = 3 ∨ y = 4 ∨ y = 5) := hsr
      obtain ⟨hs0, hs1⟩ := hsb
      clear HH HM hsr
      go_wp2_with fail
      refine (acc_any y _ HSR.out).mono ?_
      rintro e w' ⟨rfl, rfl⟩
      cases hacc : acc y with
      | true =>
        have HA : Hid (acc y = true) := hacc
        clear hacc
        go_wp2
        go_round
        case rel => exact ⟨k + 1, k + 1, y, y, by omega, by omega, by go_num, by go_num, rfl, rfl, hs0, hs1, by rw [HRU.out]; exact HHH.out HA.out⟩
        case measure => simp [intOf]; omega
      | false =>
        have HA : Hid (acc y = false) := hacc
        clear hacc
        go_wp2
        go_round
        case rel => exact ⟨k + 1, p, y, sp, by omega, by omega, by go_num, rfl, rfl, rfl, hs0, hs1, by rw [HRU.out]; exact HMM.out HA.out⟩
        case measure => simp [intOf]; omega
    · have hend : (p, sp) = (pF, 1) := by
        rw [← HFF.out, HRU.out]
        by_cases h : k < n
        · rw [run_neg (by omega)]
        · rw [run_over (by rw [HN.out]; omega)]
      obtain ⟨hpe, hse⟩ := Prod.mk.inj hend
      subst hpe
      subst hse
      clear hend
      by_cases hlt : k < n
      · have hneg : st < 0 := by omega
        clear hgo
        have hcp := HC2.out p hpn
        generalize l.getD p 0 = ch at hcp n101 n69
        have q0 : ((p : Int) == 0) = false := by simp; omega
        have qn : ((p : Int) == (n : Int)) = false := by simp; omega
        have hpc : p ≤ cA := by omega
        have rT : Rd wB (.slice (some ⟨g, o, none⟩) p cA) (l.take p) := rB.cut 0 p (Nat.zero_le _) (by omega) _ (by simp)
        go_wp2_with fail
        refine (HSP.out _ rT).mono ?_
        rintro e w7 ⟨rfl, k7⟩
        go_wp2
        go_ret
        exact ⟨rfl, (K0.trans k7 (T := fun _ => False) (fun _ _ h => h) (fun _ _ h => h)).below (Nat.le_refl _) (fun _ _ h => h)⟩
      · clear hgo
        have hcp := HC2.out p hpn
        generalize l.getD p 0 = ch at hcp n101 n69
        have q0 : ((p : Int) == 0) = false := by simp; omega
        have qn : ((p : Int) == (n : Int)) = false := by simp; omega
        have hpc : p ≤ cA := by omega
        have rT : Rd wB (.slice (some ⟨g, o, none⟩) p cA) (l.take p) := rB.cut 0 p (Nat.zero_le _) (by omega) _ (by simp)
        go_wp2_with fail
        refine (HSP.out _ rT).mono ?_
        rintro e w7 ⟨rfl, k7⟩
        go_wp2
        go_ret
        exact ⟨rfl, (K0.trans k7 (T := fun _ => False) (fun _ _ h => h) (fun _ _ h => h)).below (Nat.le_refl _) (fun _ _ h => h)⟩

set_option maxHeartbeats 3200000 in
theorem law7_part_2 (a0 : Option Addr) (c0 n : Nat) (l : List Int) (w : World) (HN : Hid (l.length = n)) (i0 : In w (.slice a0 n c0) l) (hbyt : Byt l) (h1 : n ≤ 1048576) (hn1 : 1 ≤ n) (pF : Nat) (hs : Sc l pF) (hF : found l = (pF, 2)) (hp1 : 1 ≤ pF) (hpn : pF < n) (n101 : (l.getD pF 0 == 101) = false) (n69 : (l.getD pF 0 == 69) = false) :
    Calls Try.prog 7 #[.slice a0 n c0] w fun e w' => e = .returned (.bool true) ∧ Below w.heap.size w w' := by
  have lm : l.length ≤ 1048576 := by rw [HN.out]; exact h1
  have HFF : Hid (found l = (pF, 2)) := hF
  clear hF
  go_enter Try.func7, Try.ntmps7
  go_wp2_with (go_at_call 19; refine (zz19_t _ _ _ _ h1).mono ?_; rintro e w' ⟨rfl, rfl⟩)
  refine (clone_any _ l _ i0 lm).mono ?_
  rintro e wA ⟨vA, rfl, oA, bA, kA⟩
  obtain ⟨aA, cA, hvA⟩ := oA.rd.form
  have rA := oA.rd
  rw [HN.out] at hvA
  rw [hvA] at rA ⊢
  obtain ⟨g, o, haA, -, hnc, hcm, hg, hcell⟩ := rA.addr (by rw [HN.out]; exact hn1)
  rw [haA] at rA ⊢
  rw [HN.out] at hnc hcell
  clear hvA haA oA bA i0
  have HCE : Hid (∀ j, j < n → wA.cell? ⟨g, o + j, none⟩ = some (.int .u8 (l.getD j 0))) := hcell
  clear hcell
  go_wp2_with fail
  refine (zzsd_s _ l pF _ rA lm hs).mono ?_
  rintro e wB ⟨⟨W, F, E, rfl, rW, rF, rE⟩, kB⟩
  obtain ⟨aW, cW, hW⟩ := rW.form
  obtain ⟨aF, cF, hvF⟩ := rF.form
  obtain ⟨aE, cE, hvE⟩ := rE.form
  have hW1 : 1 ≤ (l.take (at0 l)).length := by rw [List.length_take]; have := at0_le l; have := HN.out; have := hs.1; omega
  have SPL := fun (vt : Value) (ht : Rd wB vt (l.take pF)) => isSplit_any vt W F E l pF wB hs lm ht rW rF rE
  generalize (l.take (at0 l)).length = nW at hW hW1
  generalize ((l.take (at1 l)).drop (at0 l + 1)).length = nF at hvF
  generalize ((l.take pF).drop (at1 l + 1)).length = nE at hvE
  generalize hasPt l = pt at SPL ⊢
  rw [hW, hvF, hvE] at SPL ⊢
  have HSP : Hid (∀ (vt : Value), Rd wB vt (l.take pF) → Calls Try.prog 23 #[vt, .slice aW nW cW, .bool pt, .slice aF nF cF, .slice aE nE cE] wB fun e w' => e = .returned (.bool true) ∧ Kept (fun _ => False) wB w') := SPL
  clear SPL rW rF rE hW hvF hvE
  rw [show decide (pF = l.length) = false by rw [HN.out]; simp; try omega]
  have qW : ((nW : Int) == 0) = false := by simp; omega
  have HC2 : Hid (∀ j, j < n → wB.cell? ⟨g, o + j, none⟩ = some (.int .u8 (l.getD j 0))) := fun j hj => by rw [kB.cell (p := ⟨g, o + j, none⟩) hg (fun h => h)]; exact HCE.out j hj
  have rB : Rd wB (.slice (some ⟨g, o, none⟩) n cA) l := rA.kept kB (fun _ _ h => h)
  have K0 : Kept (fun _ => False) w wB := kA.trans kB (fun _ _ h => h) (fun _ _ h => h)
  clear rA kA kB HCE
  go_wp2_with fail
  go_loop [8, 9, 10, 11] (fun P SP ST I => ∃ (k p : Nat) (st sp : Int), k ≤ n ∧ p ≤ k ∧ I = .int .i64 k ∧ P = .int .i64 p ∧ ST = .int .i64 st ∧ SP = .int .i64 sp ∧ -1 ≤ st ∧ st ≤ 5 ∧ found l = run (l.drop k) k st p sp) (fun _ _ _ I => n - (intOf I).toNat)
  case atStart => exact ⟨0, 0, 0, 0, Nat.zero_le _, Nat.le_refl _, rfl, rfl, rfl, rfl, by omega, by omega, by rw [List.drop_zero]; exact (run_found l).symm⟩
  case round =>
    obtain ⟨k, p, st, sp, hk, hpk, rfl, rfl, rfl, rfl, hst0, hst1, hrun⟩ := hrel
    have HRU : Hid (found l = run (l.drop k) k st p sp) := hrun
    clear hrun
    by_cases hgo : k < n ∧ 0 ≤ st
    · obtain ⟨hlt, hst⟩ := hgo
      have hc := HC2.out k hlt
      have HC := hid_get l k (by rw [HN.out]; exact hlt)
      have hb := byt_at hbyt k
      generalize l.getD k 0 = x at hc HC hb
      obtain ⟨hb0, hb1⟩ := hb
      go_wp2_with fail
      refine (step_any st x _ (by omega) hb0 hb1).mono ?_
      rintro e w' ⟨rfl, rfl⟩
      have hsb := st_bounds st x
      have hsr := stp_range st x
      have HH := @run_hit l k x st p sp HC.out hst
      have HM := @run_miss l k x st p sp HC.out hst
      generalize stp st x = y at hsb hsr HH HM ⊢
      have HHH : Hid (acc y = true → run (l.drop k) k st p sp = run (l.drop (k + 1)) (k + 1) y (k + 1) y) := HH
      have HMM : Hid (acc y = false → run (l.drop k) k st p sp = run (l.drop (k + 1)) (k + 1) y p sp) := HM
      have HSR : Hid (y = -1 ∨ y = 0 ∨ y = 1 ∨ y = 2 ∨ y = 3 ∨ y = 4 ∨ y = 5) := hsr
      obtain ⟨hs0, hs1⟩ := hsb
      clear HH HM hsr
      go_wp2_with fail
      refine (acc_any y _ HSR.out).mono ?_
      rintro e w' ⟨rfl, rfl⟩
      cases hacc : acc y with
      | true =>
        have HA : Hid (acc y = true) := hacc
        clear hacc
        go_wp2
        go_round
        case rel => exact ⟨k + 1, k + 1, y, y, by omega, by omega, by go_num, by go_num, rfl, rfl, hs0, hs1, by rw [HRU.out]; exact HHH.out HA.out⟩
        case measure => simp [intOf]; omega
      | false =>
        have HA : Hid (acc y = false) := hacc
        clear hacc
        go_wp2
        go_round
        case rel => exact ⟨k + 1, p, y, sp, by omega, by omega, by go_num, rfl, rfl, rfl, hs0, hs1, by rw [HRU.out]; exact HMM.out HA.out⟩
        case measure => simp [intOf]; omega
    · have hend : (p, sp) = (pF, 2) := by
        rw [← HFF.out, HRU.out]
        by_cases h : k < n
        · rw [run_neg (by omega)]
        · rw [run_over (by rw [HN.out]; omega)]
      obtain ⟨hpe, hse⟩ := Prod.mk.inj hend
      subst hpe
      subst hse
      clear hend
      by_cases hlt : k < n
      · have hneg : st < 0 := by omega
        clear hgo
        have hcp := HC2.out p hpn
        generalize l.getD p 0 = ch at hcp n101 n69
        have q0 : ((p : Int) == 0) = false := by simp; omega
        have qn : ((p : Int) == (n : Int)) = false := by simp; omega
        have hpc : p ≤ cA := by omega
        have rT : Rd wB (.slice (some ⟨g, o, none⟩) p cA) (l.take p) := rB.cut 0 p (Nat.zero_le _) (by omega) _ (by simp)
        go_wp2_with fail
        refine (HSP.out _ rT).mono ?_
        rintro e w7 ⟨rfl, k7⟩
        go_wp2
        go_ret
        exact ⟨rfl, (K0.trans k7 (T := fun _ => False) (fun _ _ h => h) (fun _ _ h => h)).below (Nat.le_refl _) (fun _ _ h => h)⟩
      · clear hgo
        have hcp := HC2.out p hpn
        generalize l.getD p 0 = ch at hcp n101 n69
        have q0 : ((p : Int) == 0) = false := by simp; omega
        have qn : ((p : Int) == (n : Int)) = false := by simp; omega
        have hpc : p ≤ cA := by omega
        have rT : Rd wB (.slice (some ⟨g, o, none⟩) p cA) (l.take p) := rB.cut 0 p (Nat.zero_le _) (by omega) _ (by simp)
        go_wp2_with fail
        refine (HSP.out _ rT).mono ?_
        rintro e w7 ⟨rfl, k7⟩
        go_wp2
        go_ret
        exact ⟨rfl, (K0.trans k7 (T := fun _ => False) (fun _ _ h => h) (fun _ _ h => h)).below (Nat.le_refl _) (fun _ _ h => h)⟩

set_option maxHeartbeats 3200000 in
theorem law7_part_5 (a0 : Option Addr) (c0 n : Nat) (l : List Int) (w : World) (HN : Hid (l.length = n)) (i0 : In w (.slice a0 n c0) l) (hbyt : Byt l) (h1 : n ≤ 1048576) (hn1 : 1 ≤ n) (pF : Nat) (hs : Sc l pF) (hF : found l = (pF, 5)) (hp1 : 1 ≤ pF) (hpn : pF < n) :
    Calls Try.prog 7 #[.slice a0 n c0] w fun e w' => e = .returned (.bool true) ∧ Below w.heap.size w w' := by
  have lm : l.length ≤ 1048576 := by rw [HN.out]; exact h1
  have HFF : Hid (found l = (pF, 5)) := hF
  clear hF
  go_enter Try.func7, Try.ntmps7
  go_wp2_with (go_at_call 19; refine (zz19_t _ _ _ _ h1).mono ?_; rintro e w' ⟨rfl, rfl⟩)
  refine (clone_any _ l _ i0 lm).mono ?_
  rintro e wA ⟨vA, rfl, oA, bA, kA⟩
  obtain ⟨aA, cA, hvA⟩ := oA.rd.form
  have rA := oA.rd
  rw [HN.out] at hvA
  rw [hvA] at rA ⊢
  obtain ⟨g, o, haA, -, hnc, hcm, hg, hcell⟩ := rA.addr (by rw [HN.out]; exact hn1)
  rw [haA] at rA ⊢
  rw [HN.out] at hnc hcell
  clear hvA haA oA bA i0
  have HCE : Hid (∀ j, j < n → wA.cell? ⟨g, o + j, none⟩ = some (.int .u8 (l.getD j 0))) := hcell
  clear hcell
  go_wp2_with fail
  refine (zzsd_s _ l pF _ rA lm hs).mono ?_
  rintro e wB ⟨⟨W, F, E, rfl, rW, rF, rE⟩, kB⟩
  obtain ⟨aW, cW, hW⟩ := rW.form
  obtain ⟨aF, cF, hvF⟩ := rF.form
  obtain ⟨aE, cE, hvE⟩ := rE.form
  have hW1 : 1 ≤ (l.take (at0 l)).length := by rw [List.length_take]; have := at0_le l; have := HN.out; have := hs.1; omega
  have SPL := fun (vt : Value) (ht : Rd wB vt (l.take pF)) => isSplit_any vt W F E l pF wB hs lm ht rW rF rE
  generalize (l.take (at0 l)).length = nW at hW hW1
  generalize ((l.take (at1 l)).drop (at0 l + 1)).length = nF at hvF
  generalize ((l.take pF).drop (at1 l + 1)).length = nE at hvE
  generalize hasPt l = pt at SPL ⊢
  rw [hW, hvF, hvE] at SPL ⊢
  have HSP : Hid (∀ (vt : Value), Rd wB vt (l.take pF) → Calls Try.prog 23 #[vt, .slice aW nW cW, .bool pt, .slice aF nF cF, .slice aE nE cE] wB fun e w' => e = .returned (.bool true) ∧ Kept (fun _ => False) wB w') := SPL
  clear SPL rW rF rE hW hvF hvE
  rw [show decide (pF = l.length) = false by rw [HN.out]; simp; try omega]
  have qW : ((nW : Int) == 0) = false := by simp; omega
  have HC2 : Hid (∀ j, j < n → wB.cell? ⟨g, o + j, none⟩ = some (.int .u8 (l.getD j 0))) := fun j hj => by rw [kB.cell (p := ⟨g, o + j, none⟩) hg (fun h => h)]; exact HCE.out j hj
  have rB : Rd wB (.slice (some ⟨g, o, none⟩) n cA) l := rA.kept kB (fun _ _ h => h)
  have K0 : Kept (fun _ => False) w wB := kA.trans kB (fun _ _ h => h) (fun _ _ h => h)
  clear rA kA kB HCE
  go_wp2_with fail
  go_loop [8, 9, 10, 11] (fun P SP ST I => ∃ (k p : Nat) (st sp : Int), k ≤ n ∧ p ≤ k ∧ I = .int .i64 k ∧ P = .int .i64 p ∧ ST = .int .i64 st ∧ SP = .int .i64 sp ∧ -1 ≤ st ∧ st ≤ 5 ∧ found l = run (l.drop k) k st p sp) (fun _ _ _ I => n - (intOf I).toNat)
  case atStart => exact ⟨0, 0, 0, 0, Nat.zero_le _, Nat.le_refl _, rfl, rfl, rfl, rfl, by omega, by omega, by rw [List.drop_zero]; exact (run_found l).symm⟩
  case round =>
    obtain ⟨k, p, st, sp, hk, hpk, rfl, rfl, rfl, rfl, hst0, hst1, hrun⟩ := hrel
    have HRU : Hid (found l = run (l.drop k) k st p sp) := hrun
    clear hrun
    by_cases hgo : k < n ∧ 0 ≤ st
    · obtain ⟨hlt, hst⟩ := hgo
      have hc := HC2.out k hlt
      have HC := hid_get l k (by rw [HN.out]; exact hlt)
      have hb := byt_at hbyt k
      generalize l.getD k 0 = x at hc HC hb
      obtain ⟨hb0, hb1⟩ := hb
      go_wp2_with fail
      refine (step_any st x _ (by omega) hb0 hb1).mono ?_
      rintro e w' ⟨rfl, rfl⟩
      have hsb := st_bounds st x
      have hsr := stp_range st x
      have HH := @run_hit l k x st p sp HC.out hst
      have HM := @run_miss l k x st p sp HC.out hst
      generalize stp st x = y at hsb hsr HH HM ⊢
      have HHH : Hid (acc y = true → run (l.drop k) k st p sp = run (l.drop (k + 1)) (k + 1) y (k + 1) y) := HH
      have HMM : Hid (acc y = false → run (l.drop k) k st p sp = run (l.drop (k + 1)) (k + 1) y p sp) := HM
      have HSR : Hid (y = -1 ∨ y = 0 ∨ y = 1 ∨ y = 2 ∨ y = 3 ∨ y = 4 ∨ y = 5) := hsr
      obtain ⟨hs0, hs1⟩ := hsb
      clear HH HM hsr
      go_wp2_with fail
      refine (acc_any y _ HSR.out).mono ?_
      rintro e w' ⟨rfl, rfl⟩
      cases hacc : acc y with
      | true =>
        have HA : Hid (acc y = true) := hacc
        clear hacc
        go_wp2
        go_round
        case rel => exact ⟨k + 1, k + 1, y, y, by omega, by omega, by go_num, by go_num, rfl, rfl, hs0, hs1, by rw [HRU.out]; exact HHH.out HA.out⟩
        case measure => simp [intOf]; omega
      | false =>
        have HA : Hid (acc y = false) := hacc
        clear hacc
        go_wp2
        go_round
        case rel => exact ⟨k + 1, p, y, sp, by omega, by omega, by go_num, rfl, rfl, rfl, hs0, hs1, by rw [HRU.out]; exact HMM.out HA.out⟩
        case measure => simp [intOf]; omega
    · have hend : (p, sp) = (pF, 5) := by
        rw [← HFF.out, HRU.out]
        by_cases h : k < n
        · rw [run_neg (by omega)]
        · rw [run_over (by rw [HN.out]; omega)]
      obtain ⟨hpe, hse⟩ := Prod.mk.inj hend
      subst hpe
      subst hse
      clear hend
      by_cases hlt : k < n
      · have hneg : st < 0 := by omega
        clear hgo
        have q0 : ((p : Int) == 0) = false := by simp; omega
        have qn : ((p : Int) == (n : Int)) = false := by simp; omega
        have hpc : p ≤ cA := by omega
        have rT : Rd wB (.slice (some ⟨g, o, none⟩) p cA) (l.take p) := rB.cut 0 p (Nat.zero_le _) (by omega) _ (by simp)
        go_wp2_with fail
        refine (HSP.out _ rT).mono ?_
        rintro e w7 ⟨rfl, k7⟩
        go_wp2
        go_ret
        exact ⟨rfl, (K0.trans k7 (T := fun _ => False) (fun _ _ h => h) (fun _ _ h => h)).below (Nat.le_refl _) (fun _ _ h => h)⟩
      · clear hgo
        have q0 : ((p : Int) == 0) = false := by simp; omega
        have qn : ((p : Int) == (n : Int)) = false := by simp; omega
        have hpc : p ≤ cA := by omega
        have rT : Rd wB (.slice (some ⟨g, o, none⟩) p cA) (l.take p) := rB.cut 0 p (Nat.zero_le _) (by omega) _ (by simp)
        go_wp2_with fail
        refine (HSP.out _ rT).mono ?_
        rintro e w7 ⟨rfl, k7⟩
        go_wp2
        go_ret
        exact ⟨rfl, (K0.trans k7 (T := fun _ => False) (fun _ _ h => h) (fun _ _ h => h)).below (Nat.le_refl _) (fun _ _ h => h)⟩

theorem law7_nil (a0 : Option Addr) (c0 : Nat) (w : World) (i0 : In w (.slice a0 0 c0) []) : Calls Try.prog 7 #[.slice a0 0 c0] w fun e w' => e = .returned (.bool true) ∧ Below w.heap.size w w' := by
  have hz : Zc [] := .inl rfl
  go_enter Try.func7, Try.ntmps7
  go_wp2_with (go_at_call 19; refine (zz19_t _ _ _ _ (by omega)).mono ?_; rintro e w' ⟨rfl, rfl⟩)
  refine (clone_any _ [] _ i0 (by simp)).mono ?_
  rintro e wA ⟨vA, rfl, oA, bA, kA⟩
  obtain ⟨aA, cA, hvA⟩ := oA.rd.form
  have rA := oA.rd
  rw [hvA] at rA ⊢
  clear hvA oA bA i0
  go_wp2_with fail
  refine (zzsd_z _ [] _ rA (by simp) hz).mono ?_
  rintro e wB ⟨rfl, kB⟩
  have K0 : Kept (fun _ => False) w wB := kA.trans kB (fun _ _ h => h) (fun _ _ h => h)
  clear rA kA kB
  go_wp2_with fail
  refine wp_loop_rounds 1 ?_
  rw [rounds_succ]
  go_wp2
  go_ret
  exact ⟨rfl, K0.below (Nat.le_refl _) (fun _ _ h => h)⟩

theorem law7 (v : Value) (l : List Int) (w : World) (i0 : In w v l) (hb : Byt l) : Calls Try.prog 7 #[v] w fun e w' => e = .returned (.bool true) ∧ Below w.heap.size w w' := by
  obtain ⟨a, c, rfl⟩ := i0.form
  by_cases h : l.length ≤ 1048576
  · by_cases hn : l.length = 0
    · obtain rfl : l = [] := List.eq_nil_of_length_eq_zero hn
      exact law7_nil a c w i0
    have hn1 : 1 ≤ l.length := by omega
    by_cases h0 : at0 l = 0
    · exact law7_zero a c _ l w rfl i0 hb h hn1 (.inl h0) (found_zero h0)
    have l0 := at0_le l
    have l01 := at1_ge l
    rcases expo_ways l (at1 l) (at1_le l) with ⟨k1, hx⟩ | ⟨ch, k1, k2, k3, k4, hx⟩ | ⟨ch, hch, k1, k2, k3⟩
    · exact law7_full a c _ l w rfl i0 hb h hn1 (at1 l) _ ⟨h0, .inl ⟨hx, rfl⟩⟩ (found_none h0 hx) (by omega) (by omega) (by omega)
    · have hg : l.getD (at1 l) 0 = ch := by simp [k1]
      have hf := found_none h0 hx
      cases hp : hasPt l with
      | true => rw [hp] at hf; exact law7_part_2 a c _ l w rfl i0 hb h hn1 (at1 l) ⟨h0, .inl ⟨hx, rfl⟩⟩ hf (by omega) k2 (by rw [hg]; exact k3) (by rw [hg]; exact k4)
      | false => rw [hp] at hf; exact law7_part_1 a c _ l w rfl i0 hb h hn1 (at1 l) ⟨h0, .inl ⟨hx, rfl⟩⟩ hf (by omega) k2 (by rw [hg]; exact k3) (by rw [hg]; exact k4)
    · have hg : l.getD (at1 l) 0 = ch := by simp [k1]
      have bad : expo (l.drop (at1 l)) = some 0 → Calls Try.prog 7 #[.slice a l.length c] w fun e w' => e = .returned (.bool true) ∧ Below w.heap.size w w' := fun hx => by
        have hf := found_bad h0 hx
        rcases hch with rfl | rfl
        · cases hp : hasPt l with
          | true => rw [hp] at hf; exact law7_bad_2_101 a c _ l w rfl i0 hb h hn1 (at1 l) (.inr hx) hf (by omega) k2 hg
          | false => rw [hp] at hf; exact law7_bad_1_101 a c _ l w rfl i0 hb h hn1 (at1 l) (.inr hx) hf (by omega) k2 hg
        · cases hp : hasPt l with
          | true => rw [hp] at hf; exact law7_bad_2_69 a c _ l w rfl i0 hb h hn1 (at1 l) (.inr hx) hf (by omega) k2 hg
          | false => rw [hp] at hf; exact law7_bad_1_69 a c _ l w rfl i0 hb h hn1 (at1 l) (.inr hx) hf (by omega) k2 hg
      have good : ∀ q, 1 ≤ q → expo (l.drop (at1 l)) = some q → at1 l + q ≤ l.length → Calls Try.prog 7 #[.slice a l.length c] w fun e w' => e = .returned (.bool true) ∧ Below w.heap.size w w' := fun q hq hx hle => by
        have hf := found_some h0 hq hx
        by_cases hlt : at1 l + q < l.length
        · exact law7_part_5 a c _ l w rfl i0 hb h hn1 (at1 l + q) ⟨h0, .inr ⟨q, hq, hx, rfl⟩⟩ hf (by omega) hlt
        · exact law7_full a c _ l w rfl i0 hb h hn1 (at1 l + q) _ ⟨h0, .inr ⟨q, hq, hx, rfl⟩⟩ hf (by omega) hle (by omega)
      rcases k3 with ⟨m1, m2, hx⟩ | ⟨c2, hc2, m1, m2, ⟨m3, hx⟩ | ⟨m3, m4, q, m5, m6, hx⟩⟩ | ⟨c2, hs1, hs2, m1, m2, ⟨m3, hx⟩ | ⟨m3, m4, q, m5, m6, hx⟩⟩
      · exact bad hx
      · exact bad hx
      · exact good q m5 hx (by omega)
      · exact bad hx
      · exact good q m5 hx (by omega)
  · refine (law7_far a _ c w h).mono ?_
    rintro e w' ⟨rfl, rfl⟩
    exact ⟨rfl, Below.refl _ _⟩
end Go.Proofs.Qxb6603725a
