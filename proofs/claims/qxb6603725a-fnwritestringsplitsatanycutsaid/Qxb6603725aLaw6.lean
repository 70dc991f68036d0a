/-
  zzB1Concat (18), AND THE LAW's WALK: FnWriteStringSplitsAtAnyCut (6).
-/
import Derived.Test.Qxb6603725aWalkV
namespace Go.Proofs.Qxb6603725a
open Go.RowKit

theorem getD_left (a b : List Int) (k : Nat) (h : k < a.length) : (a ++ b).getD k 0 = a.getD k 0 := by
  simp [List.getD, List.getElem?_append_left h]
theorem getD_right (a b : List Int) (k : Nat) : (a ++ b).getD (a.length + k) 0 = b.getD k 0 := by
  simp [List.getD, List.getElem?_append_right]

set_option maxHeartbeats 800000 in
/-- zzB1Concat: a new row: a, then b. -/
theorem concat_any (sa sb : Option Addr) (ca cb : Nat) (la lb : List Int) (w : World) (ha : Rd w (.slice sa la.length ca) la) (hb : Rd w (.slice sb lb.length cb) lb) (h1 : la.length ≤ 1048576) (h2 : lb.length ≤ 1048576) :
    Calls Try.prog 18 #[.slice sa la.length ca, .slice sb lb.length cb] w fun e w' => ∃ v', e = .returned v' ∧ Own w' v' (la ++ lb) ∧ (v'.ownBlock = none ∨ v'.ownBlock = some w.heap.size) ∧ Kept (fun _ => False) w w' := by
  obtain ⟨i0, hi, hz0, hz1, hz2⟩ := info_parts info5
  obtain ⟨n, hn⟩ : ∃ n, n = la.length + lb.length := ⟨_, rfl⟩
  have hN : (la ++ lb).length = n := by rw [List.length_append, hn]
  have HN : Hid ((la ++ lb).length = n) := hN
  have Hn : Hid (n = la.length + lb.length) := hn
  have hn1 : la.length + lb.length ≤ n := by omega
  have hn2 : n ≤ la.length + lb.length := by omega
  clear hn hN
  go_enter Try.func18, Try.ntmps18
  go_wp2_with (at_make; refine wpList_make_full _ rfl _ _ 22 rfl w.heap.size 5 i0 (.int .u8 0) 1 Try.underlying22 hi hz0 hz1 _ _ _ _ n rfl rfl (by omega) (by omega) ?b2 ?b3 (Nat.le_refl _) ?_)
  case b2 => rw [hz2]; omega
  case b3 => unfold maxLen; omega
  intro w1 hown hgrow
  go_wp2
  go_loopw [6] (fun i wr => ∃ k : Nat, k ≤ la.length ∧ i = .int .i64 k ∧ wr.ownsRow w.heap.size 5 1 (.slice (some ⟨w.heap.size, 0, none⟩) n n) n (fillOf (la ++ lb) n k) ∧ Below w.heap.size w wr) (fun i _ => la.length - (intOf i).toNat)
  case atStart =>
    refine ⟨0, Nat.zero_le _, rfl, ?_, (Below.refl _ _).grown hgrow (Nat.le_refl _) (fun k h => by cases h)⟩
    rw [fillOf_zero, ← toList_madeCells_one]
    simpa [Value.cells] using hown
  case round =>
    obtain ⟨k, hk, rfl, hown', hnx⟩ := hrel
    by_cases hlt : k < la.length
    · obtain ⟨g, o, rfl, -, hlc, hcm, hg, hcell⟩ := ha.addr (by omega)
      have hst := hown'.stored k (.int .u8 ((la ++ lb).getD k 0))
      rw [fillOf_set _ n k HN.out (by omega), getD_left la lb k hlt] at hst
      have hc' : wr.cell? ⟨g, o + k, none⟩ = some (.int .u8 (la.getD k 0)) := (hnx.cell (by exact hg)).trans (hcell k hlt)
      have hd' : wr.cell? ⟨w.heap.size, k, none⟩ = some (.int .u8 0) := (hown'.cellAt k (by omega)).trans (fillOf_some _ n k HN.out (by omega))
      have hf' := hown'.frozenAt k
      generalize la.getD k 0 = u at hst hc'
      clear hcell hown' hown hgrow
      go_wp2
      go_roundw
      case rel => exact ⟨k + 1, by omega, by go_num, hst.1, hnx.grown hst.2 (by have := hnx.size; omega) (fun k hk => by cases hk; exact Nat.le_refl _)⟩
      case measure => simp [intOf]; omega
    · obtain rfl : k = la.length := by omega
      obtain ⟨wo, hwo⟩ : ∃ wo : World, wo = wr := ⟨_, rfl⟩
      rw [← hwo] at hown' hnx ⊢
      clear hwo hown hgrow
      go_wp2
      go_loopw [7] (fun i wr => ∃ k : Nat, k ≤ lb.length ∧ i = .int .i64 k ∧ wr.ownsRow w.heap.size 5 1 (.slice (some ⟨w.heap.size, 0, none⟩) n n) n (fillOf (la ++ lb) n (la.length + k)) ∧ Below w.heap.size w wr) (fun i _ => lb.length - (intOf i).toNat)
      case atStart => exact ⟨0, Nat.zero_le _, rfl, hown', hnx⟩
      case round =>
        clear hown' hnx
        obtain ⟨k, hk', rfl, hown', hnx⟩ := hrel
        by_cases hlt' : k < lb.length
        · obtain ⟨g, o, rfl, -, hlc, hcm, hg, hcell⟩ := hb.addr (by omega)
          have hst := hown'.stored (la.length + k) (.int .u8 ((la ++ lb).getD (la.length + k) 0))
          rw [fillOf_set _ n (la.length + k) HN.out (by omega), getD_right la lb k] at hst
          have hc' : wr.cell? ⟨g, o + k, none⟩ = some (.int .u8 (lb.getD k 0)) := (hnx.cell (by exact hg)).trans (hcell k hlt')
          have hd' : wr.cell? ⟨w.heap.size, la.length + k, none⟩ = some (.int .u8 0) := (hown'.cellAt (la.length + k) (by omega)).trans (fillOf_some _ n (la.length + k) HN.out (by omega))
          have hf' := hown'.frozenAt (la.length + k)
          generalize lb.getD k 0 = u at hst hc'
          clear hcell hown'
          go_wp2
          go_roundw
          case rel => exact ⟨k + 1, by omega, by go_num, hst.1, hnx.grown hst.2 (by have := hnx.size; omega) (fun k hk => by cases hk; exact Nat.le_refl _)⟩
          case measure => simp [intOf]; omega
        · obtain rfl : k = lb.length := by omega
          go_wp2
          go_ret
          obtain rfl := Hn.out
          rw [fillOf_full _ _ HN.out] at hown'
          refine ⟨_, rfl, ⟨by simp [cellsOf], ?_⟩, .inr rfl, (Kept.ofBelow hnx).mono (fun k hk h => by omega)⟩
          rw [List.length_append]
          rcases hown'.2 with h | ⟨g, cap, cur, h1, h2, h3⟩
          · exact .inl h
          · exact .inr ⟨g, cap, cur, h1, Nat.zero_le _, h3⟩
/-! THE LAW -/
theorem zz17_t (a b : Option Addr) (n c m d : Nat) (w : World) (h : n + m ≤ 1048576) : Calls Try.prog 17 #[.slice a n c, .slice b m d] w fun e w' => e = .returned (.bool true) ∧ w = w' :=
  (zz17 a b n c m d w).mono fun _ _ ⟨h1, h2⟩ => ⟨h1.trans (ret_bool (by simpa using h)), h2⟩
theorem zz17_f (a b : Option Addr) (n c m d : Nat) (w : World) (h : ¬ n + m ≤ 1048576) : Calls Try.prog 17 #[.slice a n c, .slice b m d] w fun e w' => e = .returned (.bool false) ∧ w = w' :=
  (zz17 a b n c m d w).mono fun _ _ ⟨h1, h2⟩ => ⟨h1.trans (ret_bool (by simpa using h)), h2⟩

theorem law6_far (a0 a1 : Option Addr) (n0 c0 n1 c1 : Nat) (w : World) (h : ¬ (n0 + n1 ≤ 1048576 ∧ n0 ≤ 524288 ∧ n1 ≤ 524288)) :
    Calls Try.prog 6 #[.slice a0 n0 c0, .slice a1 n1 c1] w fun e w' => e = .returned (.bool true) ∧ w = w' := by
  by_cases h1 : n0 + n1 ≤ 1048576
  · by_cases h2 : n0 ≤ 524288
    · have h3 : ¬ n1 ≤ 524288 := fun h3 => h ⟨h1, h2, h3⟩
      clear h
      go_enter Try.func6, Try.ntmps6
      go_wp2_with (go_at_call 17; refine (zz17_t _ _ _ _ _ _ _ h1).mono ?_; rintro e w' ⟨rfl, rfl⟩)
      go_ret
      exact ⟨rfl, rfl⟩
    · clear h
      go_enter Try.func6, Try.ntmps6
      go_wp2_with (go_at_call 17; refine (zz17_t _ _ _ _ _ _ _ h1).mono ?_; rintro e w' ⟨rfl, rfl⟩)
      go_ret
      exact ⟨rfl, rfl⟩
  · clear h
    go_enter Try.func6, Try.ntmps6
    go_wp2_with (go_at_call 17; refine (zz17_f _ _ _ _ _ _ _ h1).mono ?_; rintro e w' ⟨rfl, rfl⟩)
    go_ret
    exact ⟨rfl, rfl⟩

/-- ZZWriteString(nil, s): a row of its own, nothing older has turned. -/
theorem quote_any (s : Value) (sl : List Int) (w : World) (hs : Rd w s sl) (hb : sl.length ≤ 1048576) :
    Calls Try.prog 13 #[.slice none 0 0, s] w fun e w' => ∃ g c, e = .returned (.slice (some ⟨g, 0, none⟩) (quote sl).length c) ∧ Own w' (.slice (some ⟨g, 0, none⟩) (quote sl).length c) (quote sl) ∧ Kept (fun _ => False) w w' := by
  refine (zzws_any (.slice none 0 0) [] s sl w (Own.nil w) hs (fun _ _ h => by cases h) (by simp; omega)).mono ?_
  rintro e w' ⟨v', rfl, o', k', -⟩
  rw [List.nil_append] at o'
  have k2 : Kept (fun _ => False) w w' := k'.mono (fun _ _ h => by cases h)
  rcases o'.2 with ⟨rfl, h⟩ | ⟨g, c, cur, rfl, h⟩
  · simp [quote] at h
  · exact ⟨g, c, rfl, o', k2⟩
theorem quote_ge (l : List Int) : 2 ≤ (quote l).length := by simp [quote]

set_option maxHeartbeats 1600000 in
theorem law6_near (a0 a1 : Option Addr) (c0 c1 : Nat) (l0 l1 : List Int) (w : World) (i0 : In w (.slice a0 l0.length c0) l0) (i1 : In w (.slice a1 l1.length c1) l1)
    (h1 : l0.length + l1.length ≤ 1048576) (h2 : l0.length ≤ 524288) (h3 : l1.length ≤ 524288) :
    Calls Try.prog 6 #[.slice a0 l0.length c0, .slice a1 l1.length c1] w fun e w' => e = .returned (.bool true) ∧ Below w.heap.size w w' := by
  obtain ⟨ti, hi, hz0, hz1, hz2⟩ := info_parts info5
  go_enter Try.func6, Try.ntmps6
  go_wp2_with (go_at_call 17; refine (zz17_t _ _ _ _ _ _ _ h1).mono ?_; rintro e w' ⟨rfl, rfl⟩)
  refine (clone_any _ l0 _ i0 (by omega)).mono ?_
  rintro e wA ⟨vA, rfl, oA, bA, kA⟩
  go_wp2_with fail
  refine (clone_any _ l1 _ (i1.kept kA (fun _ _ h => h)) (by omega)).mono ?_
  rintro e wB ⟨vB, rfl, oB, bB, kB⟩
  have rA := oA.rd.kept kB (fun _ _ h => h)
  have rB := oB.rd
  clear oA oB bA bB i0 i1
  obtain ⟨aA, cA, hvA⟩ := rA.form
  obtain ⟨aB, cB, hvB⟩ := rB.form
  rw [hvA] at rA ⊢
  rw [hvB] at rB ⊢
  clear hvA hvB
  go_wp2_with fail
  refine (concat_any _ _ _ _ l0 l1 _ rA rB (by omega) (by omega)).mono ?_
  rintro e wC ⟨vC, rfl, oC, -, kC⟩
  go_wp2_with fail
  refine (quote_any _ l0 _ (rA.kept kC (fun _ _ h => h)) (by omega)).mono ?_
  rintro e wD ⟨gD, cD, rfl, oD, kD⟩
  go_wp2_with fail
  refine (quote_any _ l1 _ ((rB.kept kC (fun _ _ h => h)).kept kD (fun _ _ h => h)) (by omega)).mono ?_
  rintro e wE ⟨gE, cE, rfl, oE, kE⟩
  go_wp2_with fail
  refine (quote_any _ (l0 ++ l1) _ ((oC.rd.kept kD (fun _ _ h => h)).kept kE (fun _ _ h => h)) (by rw [List.length_append]; omega)).mono ?_
  rintro e wF ⟨gF, cF, rfl, oF, kF⟩
  have rD := (oD.rd.kept kE (fun _ _ h => h)).kept kF (fun _ _ h => h)
  have rE := oE.rd.kept kF (fun _ _ h => h)
  have K0 : Kept (fun _ => False) w wF := ((((kA.trans kB (T := fun _ => False) (fun _ _ h => h) (fun _ _ h => h)).trans kC (T := fun _ => False) (fun _ _ h => h) (fun _ _ h => h)).trans kD (T := fun _ => False) (fun _ _ h => h) (fun _ _ h => h)).trans kE (T := fun _ => False) (fun _ _ h => h) (fun _ _ h => h)).trans kF (fun _ _ h => h) (fun _ _ h => h)
  clear oC oD oE kA kB kC kD kE kF rA rB
  have HL : Hid (quote (l0 ++ l1) = (quote l0).take ((quote l0).length - 1) ++ (quote l1).drop 1) := quote_split l0 l1
  have q1 := quote_ge l0
  have q2 := quote_ge l1
  have q3 := quote_length l0
  have q4 := quote_length l1
  have q5 := quote_length (l0 ++ l1)
  rw [List.length_append] at q5
  generalize quote (l0 ++ l1) = Q at HL oF q5 ⊢
  generalize quote l0 = A at HL rD q1 q3 ⊢
  generalize quote l1 = B at HL rE q2 q4 ⊢
  have hcD : A.length ≤ cD := by
    rcases rD with ⟨h, _⟩ | ⟨g', o', c', h, h1, _⟩
    · cases h
    · cases h; exact h1
  have hcE : B.length ≤ cE := by
    rcases rE with ⟨h, _⟩ | ⟨g', o', c', h, h1, _⟩
    · cases h
    · cases h; exact h1
  have hD0 : ¬ cD = 0 := by omega
  have hE1 : ¬ cE = 1 := by omega
  go_wp2_with (at_make; refine wpList_make_own _ rfl _ _ 22 rfl _ 5 ti (.int .u8 0) 1 Try.underlying22 hi hz0 hz1 _ _ _ (A.length + B.length) rfl rfl (by omega) ?b2 ?b3 (Nat.le_refl _) ?_)
  case b2 => rw [hz2]; omega
  case b3 => unfold maxLen; omega
  intro wG hownG hgG
  have WG := Wt.made hownG hgG
  clear hownG hgG
  have rA1 : ∀ v, v = .slice (some ⟨gD, 0, none⟩) (A.length - 1) cD → Rd wG v (A.take (A.length - 1)) := fun v hv =>
    (rD.cut 0 (A.length - 1) (Nat.zero_le _) (by omega) v (by rw [hv]; simp)).kept WG.kept (fun _ _ h => h)
  have rB1 : ∀ v, v = .slice (some ⟨gE, 1, none⟩) (B.length - 1) (cE - 1) → Rd wF v (B.drop 1) := fun v hv => by
    have h := rE.cut 1 B.length (by omega) (Nat.le_refl _) v (by rw [hv, if_neg hE1])
    rwa [List.take_of_length_le (Nat.le_refl _)] at h
  have bd1 : ([] : List Int).length + (A.take (A.length - 1)).length ≤ 70368744177664 := by simp; omega
  have bd2 : (A.take (A.length - 1)).length + (B.drop 1).length ≤ 70368744177664 := by simp; omega
  go_wp2_with (at_builtin; refine wpList_append_bytes _ rfl (.tmp 47) (.tmp 52) 22 22 rfl ti Try.underlying22 hi hz0 hz1 hz2 _ [] rfl WG.own _ (A.take (A.length - 1)) rfl ((rA1 _ ?hvA).src Try.underlying22) bd1 ?_)
  case hvA => first | rfl | simp
  intro v1 w1 o1 g1 k1
  have W1 := WG.app (Kept.refl _ _) o1 g1 k1
  clear o1 g1 k1 rA1
  go_wp2_with (at_builtin; refine wpList_append_bytes _ rfl (.tmp 54) (.tmp 56) 22 22 rfl ti Try.underlying22 hi hz0 hz1 hz2 _ _ rfl W1.own _ (B.drop 1) rfl (((rB1 _ ?hvB).kept W1.kept (fun _ _ h => h)).src Try.underlying22) bd2 ?_)
  case hvB => first | rfl | simp
  intro v2 w2 o2 g2 k2
  have W2 := W1.app (Kept.refl _ _) o2 g2 k2
  clear o2 g2 k2
  have oF2 := oF.kept W2.kept (fun _ _ h => h)
  have bd3 : Q.length ≤ 70368744177664 := by omega
  go_wp2_with fail
  refine (equal_any _ _ _ _ _ oF2.rd W2.own.rd bd3).mono ?_
  rintro e w7 ⟨rfl, k7⟩
  go_wp2
  go_ret
  refine ⟨ret_bool (by rw [HL.out]; simp), ?_⟩
  exact ((K0.trans W2.kept (T := fun _ => False) (fun _ _ h => h) (fun _ _ h => h)).trans k7 (T := fun _ => False) (fun _ _ h => h) (fun _ _ h => h)).below (Nat.le_refl _) (fun _ _ h => h)

theorem law6 (v0 v1 : Value) (l0 l1 : List Int) (w : World) (i0 : In w v0 l0) (i1 : In w v1 l1) : Calls Try.prog 6 #[v0, v1] w fun e w' => e = .returned (.bool true) ∧ Below w.heap.size w w' := by
  obtain ⟨a0, c0, rfl⟩ := i0.form
  obtain ⟨a1, c1, rfl⟩ := i1.form
  by_cases h : l0.length + l1.length ≤ 1048576 ∧ l0.length ≤ 524288 ∧ l1.length ≤ 524288
  · exact law6_near a0 a1 c0 c1 l0 l1 w i0 i1 h.1 h.2.1 h.2.2
  · refine (law6_far a0 a1 _ c0 _ c1 w h).mono ?_
    rintro e w' ⟨rfl, rfl⟩
    exact ⟨rfl, Below.refl _ _⟩
end Go.Proofs.Qxb6603725a
