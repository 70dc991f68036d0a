/-
  THE LAW's WALK: FnWriteStringAppendsQuotedPerByteEscapes (5).
-/
import Derived.Test.Qxb6603725aWalkV
namespace Go.Proofs.Qxb6603725a
open Go.RowKit

theorem enc_some {l : List Int} {k : Nat} {c : Int} {e L : List Int} (h : l[k]? = some c) (he : esc c = some e) : (L ++ 34 :: enc (l.take k)) ++ e = L ++ 34 :: enc (l.take (k + 1)) := by
  rw [enc_take_succ h]; simp [encB, he]
theorem enc_none {l : List Int} {k : Nat} {c : Int} {L : List Int} (h : l[k]? = some c) (he : esc c = none) : (L ++ 34 :: enc (l.take k)) ++ [c] = L ++ 34 :: enc (l.take (k + 1)) := by
  rw [enc_take_succ h]; simp [encB, he]
theorem bd5 {l0 l1 : List Int} {k : Nat} (h2 : l0.length ≤ 524288) (h3 : l1.length ≤ 524288) (e : List Int) (he : e.length ≤ 524288) : (l0 ++ 34 :: enc (l1.take k)).length + e.length ≤ 70368744177664 := by
  have := enc_length (l1.take k)
  have h4 : (l1.take k).length ≤ l1.length := by rw [List.length_take]; omega
  rw [List.length_append, List.length_cons]
  omega
theorem esc_length {c : Int} {e : List Int} (h : esc c = some e) : e.length ≤ 524288 := by
  have := encB_length c
  simp [encB, h] at this
  omega

theorem zz15_t (a b : Option Addr) (n c m d : Nat) (w : World) (h : n + m ≤ 1048576) : Calls Try.prog 15 #[.slice a n c, .slice b m d] w fun e w' => e = .returned (.bool true) ∧ w = w' :=
  (zz15 a b n c m d w).mono fun _ _ ⟨h1, h2⟩ => ⟨h1.trans (ret_bool (by simpa using h)), h2⟩
theorem zz15_f (a b : Option Addr) (n c m d : Nat) (w : World) (h : ¬ n + m ≤ 1048576) : Calls Try.prog 15 #[.slice a n c, .slice b m d] w fun e w' => e = .returned (.bool false) ∧ w = w' :=
  (zz15 a b n c m d w).mono fun _ _ ⟨h1, h2⟩ => ⟨h1.trans (ret_bool (by simpa using h)), h2⟩

theorem law5_far (a0 a1 : Option Addr) (n0 c0 n1 c1 : Nat) (w : World) (h : ¬ (n0 + n1 ≤ 1048576 ∧ n0 ≤ 524288 ∧ n1 ≤ 524288)) :
    Calls Try.prog 5 #[.slice a0 n0 c0, .slice a1 n1 c1] w fun e w' => e = .returned (.bool true) ∧ w = w' := by
  by_cases h1 : n0 + n1 ≤ 1048576
  · by_cases h2 : n0 ≤ 524288
    · have h3 : ¬ n1 ≤ 524288 := fun h3 => h ⟨h1, h2, h3⟩
      clear h
      go_enter Try.func5, Try.ntmps5
      go_wp2_with (go_at_call 15; refine (zz15_t _ _ _ _ _ _ _ h1).mono ?_; rintro e w' ⟨rfl, rfl⟩)
      go_ret
      exact ⟨rfl, rfl⟩
    · clear h
      go_enter Try.func5, Try.ntmps5
      go_wp2_with (go_at_call 15; refine (zz15_t _ _ _ _ _ _ _ h1).mono ?_; rintro e w' ⟨rfl, rfl⟩)
      go_ret
      exact ⟨rfl, rfl⟩
  · clear h
    go_enter Try.func5, Try.ntmps5
    go_wp2_with (go_at_call 15; refine (zz15_f _ _ _ _ _ _ _ h1).mono ?_; rintro e w' ⟨rfl, rfl⟩)
    go_ret
    exact ⟨rfl, rfl⟩

set_option maxHeartbeats 1600000 in
theorem law5_near (a0 a1 : Option Addr) (c0 c1 : Nat) (l0 l1 : List Int) (w : World) (i0 : In w (.slice a0 l0.length c0) l0) (i1 : In w (.slice a1 l1.length c1) l1)
    (h1 : l0.length + l1.length ≤ 1048576) (h2 : l0.length ≤ 524288) (h3 : l1.length ≤ 524288) :
    Calls Try.prog 5 #[.slice a0 l0.length c0, .slice a1 l1.length c1] w fun e w' => e = .returned (.bool true) ∧ Below w.heap.size w w' := by
  obtain ⟨ti, hi, hz0, hz1, hz2⟩ := info_parts info5
  have q22 : ∀ (w : World) (a : Option Addr) (n c n' c' : Nat), (binOp .neq 22 (.slice a n c) (.slice none n' c')).run Try.prog w = .ok (.bool (!a.isNone)) w := fun w a n c n' c' => run_neq_slice_nil_any w _ _ a n c n' c' Try.underlying22
  go_enter Try.func5, Try.ntmps5
  go_wp2_with (go_at_call 15; refine (zz15_t _ _ _ _ _ _ _ h1).mono ?_; rintro e w' ⟨rfl, rfl⟩)
  refine (clone_any _ l0 _ i0 (by omega)).mono ?_
  rintro e wA ⟨vA, rfl, oA, bA, kA⟩
  go_wp2_with fail
  refine (clone_any _ l1 _ (i1.kept kA (fun _ _ h => h)) (by omega)).mono ?_
  rintro e wB ⟨vB, rfl, oB, bB, kB⟩
  obtain ⟨aA, cA, hvA⟩ := oA.rd.form
  obtain ⟨aB, cB, hvB⟩ := oB.rd.form
  rw [hvA] at oA bA ⊢
  rw [hvB] at oB bB ⊢
  clear hvA hvB
  go_wp2_with (at_make; refine wpList_make_own _ rfl _ _ 22 rfl _ 5 ti (.int .u8 0) 1 Try.underlying22 hi hz0 hz1 _ _ _ (l0.length + 6 * l1.length + 2) rfl rfl (by omega) ?b2 ?b3 (Nat.le_refl _) ?_)
  case b2 => rw [hz2]; omega
  case b3 => unfold maxLen; omega
  intro wC hownC hgC
  have WC := Wt.made hownC hgC
  clear hownC hgC
  have rA : Rd wC (.slice aA l0.length cA) l0 := (oA.rd.kept kB (fun _ _ h => h)).kept WC.kept (fun _ _ h => h)
  go_wp2_with (at_builtin; refine wpList_append_bytes _ rfl (.tmp 31) (.tmp 32) 22 22 rfl ti Try.underlying22 hi hz0 hz1 hz2 _ [] rfl WC.own _ l0 rfl (rA.src Try.underlying22) (by simp; omega) ?_)
  intro v1 w1 o1 g1 k1
  have W1 := WC.app (Kept.refl _ _) o1 g1 k1
  clear o1 g1 k1 rA WC
  go_wp2_with (at_builtin; refine wpList_append_bytes _ rfl (.tmp 34) (.tmp 35) 22 22 rfl ti Try.underlying22 hi hz0 hz1 hz2 _ ([] ++ l0) rfl (W1.own.alloc _) _ [34] rfl ((Rd.lit w1 [34] _ rfl (by simp [maxLen])).src Try.underlying22) (by simp; omega) ?_)
  intro v2 w2 o2 g2 k2
  have W2 := W1.app (Kept.alloc w1 _ _) o2 g2 (by simpa using k2)
  clear o2 g2 k2 W1
  go_wp2
  go_loopw [5, 6] (fun want i wr => ∃ k : Nat, k ≤ l1.length ∧ i = .int .i64 k ∧ Wt wB wr want (l0 ++ 34 :: enc (l1.take k))) (fun _ i _ => l1.length - (intOf i).toNat)
  case atStart => exact ⟨0, Nat.zero_le _, rfl, by simpa [enc] using W2⟩
  case round =>
    obtain ⟨k, hk, rfl, W⟩ := hrel
    have rB : Rd wr (.slice aB l1.length cB) l1 := oB.rd.kept W.kept (fun _ _ h => h)
    by_cases hlt : k < l1.length
    · obtain ⟨g, o, rfl, -, hlc, hcm, hg, hcell⟩ := rB.addr (by omega)
      have hc := hcell k hlt
      have HC := hid_get l1 k hlt
      generalize l1.getD k 0 = ch at hc HC
      clear hcell W2
      cases he : esc ch with
      | some e =>
        have HE : Hid (esc ch = some e) := he
        clear he
        have bd := bd5 (k := k) h2 h3 e (esc_length HE.out)
        go_wp2_with (first | (go_at_call 16; refine (escape_some ch e _ HE.out).mono ?_; rintro en w' ⟨rfl, rfl⟩) | (at_builtin; refine wpList_append_bytes (wr.alloc (.cells (cellsOf e).toArray 5)) rfl (.tmp 50) (.tmp 51) 22 22 rfl ti Try.underlying22 hi hz0 hz1 hz2 _ _ rfl (W.own.alloc _) _ e rfl ((Rd.lit wr e (cellsOf e).toArray rfl (by unfold maxLen; have := esc_length HE.out; omega)).src Try.underlying22) bd ?_))
        intro v5 w5 o5 g5 k5
        have W5 := W.app (Kept.alloc wr _ _) o5 g5 (by simpa using k5)
        have W6 : Wt wB w5 v5 (l0 ++ 34 :: enc (l1.take (k + 1))) := by rw [← enc_some (L := l0) HC.out HE.out]; simpa using W5
        clear o5 g5 k5 W W5
        go_wp2
        go_roundw
        case rel => exact ⟨k + 1, by omega, by go_num, W6⟩
        case measure => simp [intOf]; omega
      | none =>
        have HE : Hid (esc ch = none) := he
        clear he
        have bd := bd5 (k := k) h2 h3 [ch] (by simp)
        go_wp2_with (first | (go_at_call 16; refine (escape_none ch _ HE.out).mono ?_; rintro en w' ⟨rfl, rfl⟩) | (at_builtin; refine wpList_append_bytes (wr.alloc (.cells #[.int .u8 ch] 5)) rfl (.tmp 53) (.tmp 58) 22 22 rfl ti Try.underlying22 hi hz0 hz1 hz2 _ _ rfl (W.own.alloc _) _ [ch] rfl ((Rd.lit wr [ch] _ rfl (by simp [maxLen])).src Try.underlying22) bd ?_))
        intro v5 w5 o5 g5 k5
        have W5 := W.app (Kept.alloc wr _ _) o5 g5 (by simpa using k5)
        have W6 : Wt wB w5 v5 (l0 ++ 34 :: enc (l1.take (k + 1))) := by rw [← enc_none (L := l0) HC.out HE.out]; simpa using W5
        clear o5 g5 k5 W W5
        go_wp2
        go_roundw
        case rel => exact ⟨k + 1, by omega, by go_num, W6⟩
        case measure => simp [intOf]; omega
    · obtain rfl : k = l1.length := by omega
      have bd := bd5 (l0 := l0) (l1 := l1) (k := l1.length) h2 h3 [34] (by simp)
      clear W2
      go_wp2_with (at_builtin; refine wpList_append_bytes (wr.alloc (.cells #[.int .u8 34] 5)) rfl (.tmp 60) (.tmp 61) 22 22 rfl ti Try.underlying22 hi hz0 hz1 hz2 _ _ rfl (W.own.alloc _) _ [34] rfl ((Rd.lit wr [34] _ rfl (by simp [maxLen])).src Try.underlying22) bd ?_)
      intro v5 w5 o5 g5 k5
      have W5 : Wt wB w5 v5 (l0 ++ quote l1) := by
        have h := W.app (Kept.alloc wr _ _) o5 g5 (by simpa using k5)
        simpa [quote] using h
      clear o5 g5 k5 W rB
      have oA5 : Own w5 (.slice aA l0.length cA) l0 := (oA.kept kB (fun _ _ h => h)).kept W5.kept (fun _ _ h => h)
      have rB5 : Rd w5 (.slice aB l1.length cB) l1 := oB.rd.kept W5.kept (fun _ _ h => h)
      have hltA := oA.lt
      go_wp2_with fail
      refine (zzws_any _ l0 _ l1 _ oA5 rB5 (fun j hj e => ?_) (by omega)).mono ?_
      · rcases bB with h | h
        · rw [h] at hj; cases hj
        · rw [h] at hj; cases hj; exact absurd (hltA _ e) (Nat.lt_irrefl _)
      rintro e w6 ⟨v6, rfl, o6, k6, l6⟩
      have o5' : Own w6 v5 (l0 ++ quote l1) := W5.own.kept k6 (fun j hj e => by have h5 := W5.later j hj; have h6 := hltA j e.symm; have := kB.size; omega)
      have bd' : (l0 ++ quote l1).length ≤ 70368744177664 := by have := quote_length l1; rw [List.length_append]; omega
      go_wp2_with fail
      refine (equal_any _ _ _ _ _ o6.rd o5'.rd bd').mono ?_
      rintro e w7 ⟨rfl, k7⟩
      go_wp2
      go_ret
      refine ⟨ret_bool (by simp), ?_⟩
      have K := (((kA.trans kB (T := fun _ => False) (fun _ _ h => h) (fun _ _ h => h)).trans W5.kept (T := fun _ => False) (fun _ _ h => h) (fun _ _ h => h)).trans k6 (T := fun _ => False) (fun _ _ h => h) (fun j hj e => ?_)).trans k7 (T := fun _ => False) (fun _ _ h => h) (fun _ _ h => h)
      · exact K.below (Nat.le_refl _) (fun _ _ h => h)
      · rcases bA with h | h
        · rw [h] at e; cases e
        · rw [h] at e; cases e; exact absurd hj (Nat.lt_irrefl _)

theorem law5 (v0 v1 : Value) (l0 l1 : List Int) (w : World) (i0 : In w v0 l0) (i1 : In w v1 l1) : Calls Try.prog 5 #[v0, v1] w fun e w' => e = .returned (.bool true) ∧ Below w.heap.size w w' := by
  obtain ⟨a0, c0, rfl⟩ := i0.form
  obtain ⟨a1, c1, rfl⟩ := i1.form
  by_cases h : l0.length + l1.length ≤ 1048576 ∧ l0.length ≤ 524288 ∧ l1.length ≤ 524288
  · exact law5_near a0 a1 c0 c1 l0 l1 w i0 i1 h.1 h.2.1 h.2.2
  · refine (law5_far a0 a1 _ c0 _ c1 w h).mono ?_
    rintro e w' ⟨rfl, rfl⟩
    exact ⟨rfl, Below.refl _ _⟩
end Go.Proofs.Qxb6603725a
