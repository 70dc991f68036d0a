/-
  THE LAW's WALK: FnWriteStringThenUnescapeGivesBack (4).
-/
import Derived.Test.Qxb6603725aWalkV
import Derived.Test.Qxb6603725aWalkU2
import Derived.Test.Qxb6603725aPlain3
namespace Go.Proofs.Qxb6603725a
open Go.RowKit

theorem zz12_t (a : Option Addr) (n c : Nat) (w : World) (h : n ≤ 1048576) : Calls Try.prog 12 #[.slice a n c] w fun e w' => e = .returned (.bool true) ∧ w = w' :=
  (zz12 a n c w).mono fun _ _ ⟨h1, h2⟩ => ⟨h1.trans (ret_bool (by simpa using h)), h2⟩
theorem zz12_f (a : Option Addr) (n c : Nat) (w : World) (h : ¬ n ≤ 1048576) : Calls Try.prog 12 #[.slice a n c] w fun e w' => e = .returned (.bool false) ∧ w = w' :=
  (zz12 a n c w).mono fun _ _ ⟨h1, h2⟩ => ⟨h1.trans (ret_bool (by simpa using h)), h2⟩

theorem law4_far (a : Option Addr) (n c : Nat) (w : World) (h : ¬ n ≤ 524288) : Calls Try.prog 4 #[.slice a n c] w fun e w' => e = .returned (.bool true) ∧ w = w' := by
  by_cases h1 : n ≤ 1048576
  · go_enter Try.func4, Try.ntmps4
    go_wp2_with (go_at_call 12; refine (zz12_t _ _ _ _ h1).mono ?_; rintro e w' ⟨rfl, rfl⟩)
    go_ret
    exact ⟨rfl, rfl⟩
  · go_enter Try.func4, Try.ntmps4
    go_wp2_with (go_at_call 12; refine (zz12_f _ _ _ _ h1).mono ?_; rintro e w' ⟨rfl, rfl⟩)
    go_ret
    exact ⟨rfl, rfl⟩

/-- ZZWriteString(nil, s): a row of its own, nothing older has turned. -/
theorem quote4 (s : Value) (sl : List Int) (w : World) (hs : Rd w s sl) (hb : sl.length ≤ 1048576) :
    Calls Try.prog 13 #[.slice none 0 0, s] w fun e w' => ∃ g c, e = .returned (.slice (some ⟨g, 0, none⟩) ((enc sl).length + 2) c) ∧ Rd w' (.slice (some ⟨g, 0, none⟩) ((enc sl).length + 2) c) (quote sl) ∧ Kept (fun _ => False) w w' := by
  refine (zzws_any (.slice none 0 0) [] s sl w (Own.nil w) hs (fun _ _ h => by cases h) (by simp; omega)).mono ?_
  rintro e w' ⟨v', rfl, o', k', -⟩
  rw [List.nil_append] at o'
  have k2 : Kept (fun _ => False) w w' := k'.mono (fun _ _ h => by cases h)
  rcases o'.2 with ⟨rfl, h⟩ | ⟨g, c, cur, rfl, h⟩
  · simp [quote] at h
  · rw [quote_len] at o' ⊢
    exact ⟨g, c, rfl, o'.rd, k2⟩

theorem rd_parts {w : World} {g o n c : Nat} {l : List Int} (h : Rd w (.slice (some ⟨g, o, none⟩) n c) l) :
    n = l.length ∧ n ≤ c ∧ c ≤ maxLen ∧ g < w.heap.size ∧ ∀ i, i < n → w.cell? ⟨g, o + i, none⟩ = some (.int .u8 (l.getD i 0)) := by
  rcases h with ⟨h, _⟩ | ⟨g', o', c', h, h1, h2, h3, h4⟩
  · cases h
  · cases h; exact ⟨rfl, h1, h2, h3, h4⟩

set_option maxHeartbeats 1600000 in
theorem law4_near (a0 : Option Addr) (c0 : Nat) (l : List Int) (w : World) (i0 : In w (.slice a0 l.length c0) l) (hbyt : Byt l) (h2 : l.length ≤ 524288) :
    Calls Try.prog 4 #[.slice a0 l.length c0] w fun e w' => e = .returned (.bool true) ∧ Below w.heap.size w w' := by
  obtain ⟨ti, hi, hz0, hz1, hz2⟩ := info_parts info5
  have h1 : l.length ≤ 1048576 := by omega
  go_enter Try.func4, Try.ntmps4
  go_wp2_with (go_at_call 12; refine (zz12_t _ _ _ _ h1).mono ?_; rintro e w' ⟨rfl, rfl⟩)
  refine (clone_any _ l _ i0 (by omega)).mono ?_
  rintro e wA ⟨vA, rfl, oA, bA, kA⟩
  have rA := oA.rd
  clear oA bA i0
  obtain ⟨aA, cA, hvA⟩ := rA.form
  rw [hvA] at rA ⊢
  clear hvA
  go_wp2_with fail
  refine (quote4 _ l _ rA (by omega)).mono ?_
  rintro e wQ ⟨g, cQ, rfl, rQ, kQ⟩
  have rA2 := rA.kept kQ (fun _ _ h => h)
  have K0 : Kept (fun _ => False) w wQ := kA.trans kQ (fun _ _ h => h) (fun _ _ h => h)
  clear rA kA kQ
  have hq := quote_length l
  have hql := quote_len l
  obtain ⟨N, hN⟩ : ∃ N, N = (enc l).length := ⟨_, rfl⟩
  have HN : Hid (N = (enc l).length) := hN
  rw [← hN] at rQ hql ⊢
  obtain ⟨-, hNc, hcm, hgl, hcell⟩ := rd_parts rQ
  have q0 := hcell 0 (by omega)
  have q1 := hcell (N + 1) (by omega)
  rw [quote_first] at q0
  rw [hN, quote_last, ← hN] at q1
  rw [Nat.zero_add] at q0 q1
  have hNi := quote_inner l
  rw [← hN] at hNi
  have rI : ∀ v, v = .slice (some ⟨g, 1, none⟩) N (cQ - 1) → Rd wQ v (enc l) := fun v hv => by
    have h := rQ.cut 1 (N + 1) (by omega) (by omega) v (by rw [hv, if_neg (by omega)]; simp)
    rwa [hNi] at h
  have rI' := rI _ rfl
  have hNb : N + 2 ≤ 3145730 := by omega
  clear hNi hN rQ rI hcell hql hq
  generalize hcI : cQ - 1 = cI at rI'
  have hcI1 : N + 1 ≤ cI := by omega
  have hcI2 : cI + 1 = cQ := by omega
  clear hcI
  have hcQ1 : ¬ cQ = 1 := by omega
  go_wp2_with (at_make; refine wpList_make_own _ rfl _ _ 22 rfl _ 5 ti (.int .u8 0) 1 Try.underlying22 hi hz0 hz1 _ _ _ l.length rfl rfl (by omega) ?b2 ?b3 (Nat.le_refl _) ?_)
  case b2 => rw [hz2]; omega
  case b3 => unfold maxLen; omega
  intro wG hownG hgG
  have WG := Wt.made hownG hgG
  clear hownG hgG q0 q1
  rw [show cQ - 1 = cI from by omega]
  go_wp2
  go_loopw [5, 6] (fun back i wr => ∃ k m : Nat, k ≤ l.length ∧ m ≤ N ∧ m = (enc (l.take k)).length ∧ i = .int .i64 m ∧ Wt wQ wr back (l.take k)) (fun _ i _ => N - (intOf i).toNat)
  case atStart => exact ⟨0, 0, Nat.zero_le _, Nat.zero_le _, by simp [enc], rfl, by simpa using WG⟩
  case round =>
    obtain ⟨k, m, hk, hmN, hm, rfl, W⟩ := hrel
    have HM : Hid (m = (enc (l.take k)).length) := hm
    clear hm WG
    have rIr := rI'.kept W.kept (fun _ _ h => h)
    obtain ⟨-, -, -, -, hIc⟩ := rd_parts rIr
    by_cases hlt : k < l.length
    · have HC := hid_get l k hlt
      generalize l.getD k 0 = ch at HC
      have hbk : (l.take k).length + [ch].length ≤ 70368744177664 := by rw [List.length_take, List.length_singleton]; omega
      cases he : esc ch with
      | none =>
        obtain ⟨b1, b2, b3, b4, b5⟩ := back_plain HC.out he
        rw [← HM.out] at b1 b4 b5
        rw [← HN.out] at b5
        have hc := hIc m (by omega)
        rw [show (enc l).getD m 0 = ch by simp [b1]] at hc
        have H4 : Hid ((enc (l.take (k + 1))).length = m + 1) := b4
        have hq1 : (ch == 34) = false := by simpa using b2
        have hq2 : (ch == 92) = false := by simpa using b3
        clear b1 b4 b2 b3 he hIc rIr
        go_wp2_with (at_builtin; refine wpList_append_bytes (wr.alloc (.cells #[.int .u8 ch] 5)) rfl (.tmp 58) (.tmp 60) 22 22 rfl ti Try.underlying22 hi hz0 hz1 hz2 _ _ rfl (W.own.alloc _) _ [ch] rfl ((Rd.lit wr [ch] _ rfl (by simp [maxLen])).src Try.underlying22) hbk ?_)
        intro v5 w5 o5 g5 k5
        have W5 : Wt wQ w5 v5 (l.take (k + 1)) := by
          have h := W.app (Kept.alloc wr _ _) o5 g5 (by simpa using k5)
          rw [List.take_add_one, HC.out]
          exact h
        clear o5 g5 k5 W
        go_wp2
        go_roundw
        case rel => exact ⟨k + 1, m + 1, by omega, by omega, H4.out.symm, by go_num, W5⟩
        case measure => simp [intOf]; omega
      | some e =>
        obtain ⟨b1, q, b2, b3, b4, b5, b6, b7⟩ := back_esc HC.out he
        rw [← HM.out] at b1 b3 b4
        rw [b4, ← HN.out] at b5
        have hc := hIc m (by omega)
        rw [show (enc l).getD m 0 = 92 by simp [b1]] at hc
        have H4 : Hid ((enc (l.take (k + 1))).length = m + 1 + q) := b4
        have hcut := fun v hv => rIr.cut (m + 1) N (by omega) (Nat.le_refl _) v hv
        have H3 : Hid (unesc (((enc l).take N).drop (m + 1)) = (ch, (q : Int))) := by
          show unesc (((enc l).take N).drop (m + 1)) = (ch, (q : Int))
          rw [List.take_of_length_le (by rw [← HN.out]; omega)]
          exact b3
        have hby : Byt (((enc l).take N).drop (m + 1)) := fun x hx => enc_byt hbyt x (List.mem_of_mem_take (List.mem_of_mem_drop hx))
        have hle : (((enc l).take N).drop (m + 1)).length ≤ 70368744177664 := by rw [List.length_drop, List.length_take]; omega
        clear b1 b3 b4 he hIc rIr
        have rT := hcut (.slice (some ⟨g, 1 + (m + 1), none⟩) (N - (m + 1)) (cI - (m + 1))) (by rw [if_neg (by omega)])
        clear hcut
        go_wp2_with fail
        refine (zzunescape_any _ _ _ rT hby hle).mono ?_
        rintro en w1 ⟨rfl, rfl⟩
        rw [H3.out]
        clear rT hby hle
        go_wp2_with (at_builtin; refine wpList_append_bytes (wr.alloc (.cells #[.int .u8 ch] 5)) rfl (.tmp 74) (.tmp 76) 22 22 rfl ti Try.underlying22 hi hz0 hz1 hz2 _ _ rfl (W.own.alloc _) _ [ch] rfl ((Rd.lit wr [ch] _ rfl (by simp [maxLen])).src Try.underlying22) hbk ?_)
        intro v5 w5 o5 g5 k5
        have W5 : Wt wQ w5 v5 (l.take (k + 1)) := by
          have h := W.app (Kept.alloc wr _ _) o5 g5 (by simpa using k5)
          rw [List.take_add_one, HC.out]
          exact h
        clear o5 g5 k5 W
        go_wp2
        go_roundw
        case rel => exact ⟨k + 1, m + 1 + q, by omega, by omega, H4.out.symm, by go_num, W5⟩
        case measure => simp [intOf]; omega
    · obtain rfl : k = l.length := by omega
      have hmN' : m = N := by rw [HM.out, HN.out, enc_full rfl]
      subst hmN'
      have W' : Wt wQ wr u5 l := by simpa using W
      have rAr := rA2.kept W'.kept (fun _ _ h => h)
      have bd3 : l.length ≤ 70368744177664 := by omega
      clear hIc rIr W
      go_wp2_with fail
      refine (equal_any _ _ _ _ _ W'.own.rd rAr bd3).mono ?_
      rintro en w7 ⟨rfl, k7⟩
      go_wp2
      go_ret
      refine ⟨ret_bool (by simp), ?_⟩
      exact ((K0.trans W'.kept (T := fun _ => False) (fun _ _ h => h) (fun _ _ h => h)).trans k7 (T := fun _ => False) (fun _ _ h => h) (fun _ _ h => h)).below (Nat.le_refl _) (fun _ _ h => h)

theorem law4 (v : Value) (l : List Int) (w : World) (i0 : In w v l) (hb : Byt l) : Calls Try.prog 4 #[v] w fun e w' => e = .returned (.bool true) ∧ Below w.heap.size w w' := by
  obtain ⟨a, c, rfl⟩ := i0.form
  by_cases h : l.length ≤ 524288
  · exact law4_near a c l w i0 hb h
  · refine (law4_far a _ c w h).mono ?_
    rintro e w' ⟨rfl, rfl⟩
    exact ⟨rfl, Below.refl _ _⟩
end Go.Proofs.Qxb6603725a
