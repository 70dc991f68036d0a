/-
  THE LAW's WALK: FnCertSizeOrderFreeAndBounded (3).
-/
import Derived.Test.Qxb6603824aClone
import Derived.Test.Qxb6603824aGuards
namespace Go.Proofs.Qxb6603824a
open Go.RowKit
set_option maxRecDepth 100000

/-! ### The contracts at every value that came in -/
theorem el_of {w : World} {x : Addr} {n : Nat} {il sl : Nat → Nat} (h : ∀ i, i < n → ∃ s a d, w.cell? (x.add (i * 2)) = some (.string s) ∧ s.size = il i ∧ w.cell? (x.add (i * 2 + 1)) = some (.slice a (sl i) d) ∧ il i ≤ maxLen ∧ sl i ≤ maxLen ∧
    ((a = none ∧ sl i = 0) ∨ ∃ y, a = some y ∧ ∀ j, j < sl i → ∃ z, w.cell? (y.add j) = some (.int .u8 z))) (hn : 1 ≤ n) :
    ∃ b o, x = ⟨b, o, none⟩ ∧ b < w.heap.size ∧ (∀ i, i < n → Ei w b o i (il i) (sl i)) ∧ (∀ i, i < n → il i ≤ maxLen) ∧ (∀ i, i < n → sl i ≤ maxLen) := by
  obtain ⟨s, a, d, h1, _⟩ := h 0 (by omega)
  rw [Nat.zero_mul] at h1
  obtain ⟨b, o, rfl⟩ := addr_plain h1
  refine ⟨b, o, rfl, by simpa [Addr.add] using block_lt_of_cell h1, fun i hi => ?_, fun i hi => ?_, fun i hi => ?_⟩
  · obtain ⟨s, a, d, e1, e2, e3, _, _, e4⟩ := h i hi
    rw [add_plain'] at e1 e3
    exact ⟨s, a, d, e1, e2, by rw [Nat.add_assoc]; exact e3, e4⟩
  · obtain ⟨s, a, d, _, _, _, e, _⟩ := h i hi; exact e
  · obtain ⟨s, a, d, _, _, _, _, e, _⟩ := h i hi; exact e
theorem El.of {w : World} {b o i p q : Nat} (h : Ei w b o i p q) : El w b o i p q := by
  obtain ⟨s, a, d, h1, h2, h3, _⟩ := h
  exact ⟨s, a, d, h1, h2, h3⟩

theorem bytes_any (r : Int) (v : Value) (n : Nat) (il sl : Nat → Nat) (w : World) (h : SIn w v n il sl) (hn : n ≤ maxLen) : Calls Try.prog 6 #[.int .u32 r, v] w fun e w' => IsBool e ∧ w = w' := by
  rcases h with ⟨rfl, rfl⟩ | ⟨x, c, rfl, hx⟩
  · exact bytes_zero r none 0 w
  · by_cases h0 : n = 0
    · subst h0; exact bytes_zero r _ c w
    · obtain ⟨b, o, rfl, hb, h1, h2, h3⟩ := el_of hx (by omega)
      exact bytes_some r b o n c il sl w (fun i hi => El.of (h1 i hi)) h2 h3 hn
theorem weight_any (v : Value) (n : Nat) (il sl : Nat → Nat) (w : World) (h : SIn w v n il sl) (hn : n ≤ maxLen) : Calls Try.prog 7 #[v] w fun e w' => IsWeight n (fun i => il i + sl i) e ∧ Old w w' := by
  rcases h with ⟨rfl, rfl⟩ | ⟨x, c, rfl, hx⟩
  · exact weight_zero none 0 _ w
  · by_cases h0 : n = 0
    · subst h0; exact weight_zero _ c _ w
    · obtain ⟨b, o, rfl, hb, h1, h2, h3⟩ := el_of hx (by omega)
      exact weight_some b o n c il sl w (fun i hi => El.of (h1 i hi)) h2 h3 hn
theorem SIn.old {w w' : World} {v : Value} {n : Nat} {il sl : Nat → Nat} (h : SIn w v n il sl) (hk : Old w w') : SIn w' v n il sl := by
  rcases h with h | ⟨x, c, rfl, hx⟩
  · exact .inl h
  · refine .inr ⟨x, c, rfl, fun i hi => ?_⟩
    obtain ⟨s, a, d, e1, e2, e3, e4, e5, e6⟩ := hx i hi
    refine ⟨s, a, d, by rw [hk.cell (block_lt_of_cell e1)]; exact e1, e2, by rw [hk.cell (block_lt_of_cell e3)]; exact e3, e4, e5, ?_⟩
    rcases e6 with e6 | ⟨y, e6, e7⟩
    · exact .inl e6
    · refine .inr ⟨y, e6, fun j hj => ?_⟩
      obtain ⟨z, hz⟩ := e7 j hj
      exact ⟨z, by rw [hk.cell (block_lt_of_cell hz)]; exact hz⟩
/-- cloneSgns of what is not nil. -/
theorem clone_any (x : Addr) (c n : Nat) (il sl : Nat → Nat) (w : World) (h : SIn w (.slice (some x) n c) n il sl) (hn : n ≤ 65536) (hsm : ∀ i, i < n → sl i ≤ 1048576) :
    Calls Try.prog 8 #[.slice (some x) n c] w fun e w' => ∃ g c', e = .returned (.slice (some ⟨g, 0, none⟩) n c') ∧ SRd w' (.slice (some ⟨g, 0, none⟩) n c') n il sl ∧ Old w w' := by
  rcases h with ⟨h, _⟩ | ⟨x', c', h, hx⟩
  · cases h
  · cases h
    by_cases h0 : n = 0
    · subst h0; exact clone_empty x c il sl w
    · obtain ⟨b, o, rfl, hb, h1, h2, h3⟩ := el_of hx (by omega)
      exact clone_some b o n c il sl w hn hb hsm h1
theorem tocert_any (r : Int) (g n c : Nat) (il sl : Nat → Nat) (w : World) (hn : n ≤ 65536) (h : SRd w (.slice (some ⟨g, 0, none⟩) n c) n il sl) :
    Calls Try.prog 10 #[.int .u32 r, .slice (some ⟨g, 0, none⟩) n c] w fun e w' => ∃ v', e = .returned (.agg #[.int .u32 r, v']) ∧ SRd w' v' n il sl ∧ Old w w' := by
  rcases h with ⟨h, _⟩ | ⟨g', c', h, hg, hc⟩
  · cases h
  · cases h
    exact tocert_some r g n c il sl w hn hg hc

/-! ### The law -/
theorem law_nil (r : Int) (w : World) : Calls Try.prog 3 #[.int .u32 r, .slice none 0 0] w fun e w' => e = .returned (.bool true) ∧ Below w.heap.size w w' := by
  have q23 : ∀ (w : World) (a : Option Addr) (n c n' c' : Nat), (binOp .neq 23 (.slice a n c) (.slice none n' c')).run Try.prog w = .ok (.bool (!a.isNone)) w := fun w a n c n' c' => run_neq_slice_nil_any w _ _ a n c n' c' Try.underlying23
  go_enter Try.func3, Try.ntmps3
  go_wp2_with fail
  refine (bytes_zero r none 0 _).mono ?_
  rintro e w' ⟨⟨t, rfl⟩, rfl⟩
  cases t with
  | false =>
    go_wp2
    go_ret
    exact ⟨rfl, Below.refl _ _⟩
  | true =>
    go_wp2_with fail
    refine (weight_zero none 0 (fun _ => 0) _).mono ?_
    rintro e w1 ⟨⟨W, rfl, -⟩, k1⟩
    by_cases hW : 1048576 < W
    · go_wp2
      go_ret
      exact ⟨rfl, k1.below⟩
    · go_wp2_with fail
      refine (clone_nil _).mono ?_
      rintro e w' ⟨rfl, rfl⟩
      go_wp2_with fail
      refine (tocert_nil r _).mono ?_
      rintro e w2 ⟨rfl, k2⟩
      go_wp2_with fail
      refine (zzsize_any r _ 0 (fun _ => 0) (fun _ => 0) _ (.inl ⟨rfl, rfl⟩) (by omega) (by simp [S])).mono ?_
      rintro e w3 ⟨rfl, k3⟩
      go_wp2_with fail
      refine (tocert_nil r _).mono ?_
      rintro e w4 ⟨rfl, k4⟩
      go_wp2_with fail
      refine (zzsize_any r _ 0 (fun _ => 0) (fun _ => 0) _ (.inl ⟨rfl, rfl⟩) (by omega) (by simp [S])).mono ?_
      rintro e w5 ⟨rfl, k5⟩
      have e0 : ((S (cs (fun _ => 0) (fun _ => 0)) 0 : Nat) : Int) = 0 := rfl
      rw [e0]
      clear e0
      go_wp2_with (go_at_call 11; refine (idsig_zero none 0 _).mono ?_; rintro e w' ⟨rfl, rfl⟩)
      go_ret
      exact ⟨rfl, ((((k1.trans k2).trans k3).trans k4).trans k5).below⟩

theorem sum_facts (il sl : Nat → Nat) (n : Nat) : S (cs il sl) n = 32 * n + (S il n + S sl n) := by
  have h : S (cs il sl) n = S (fun i => (fun _ => 32) i + (il i + sl i)) n := S_congr (fun i _ => by show 32 + il i + sl i = 32 + (il i + sl i); omega)
  rw [h, S_add, S_const, S_add]

set_option maxHeartbeats 1600000 in
theorem law_some (r : Int) (x : Addr) (c n : Nat) (il sl : Nat → Nat) (w : World) (h : SIn w (.slice (some x) n c) n il sl) (hn : n ≤ maxLen) :
    Calls Try.prog 3 #[.int .u32 r, .slice (some x) n c] w fun e w' => e = .returned (.bool true) ∧ Below w.heap.size w w' := by
  obtain ⟨ti, hi, hz0, hz1, hz2⟩ := info_parts info29
  have q23 : ∀ (w : World) (a : Option Addr) (n c n' c' : Nat), (binOp .neq 23 (.slice a n c) (.slice none n' c')).run Try.prog w = .ok (.bool (!a.isNone)) w := fun w a n c n' c' => run_neq_slice_nil_any w _ _ a n c n' c' Try.underlying23
  have hn' := hn
  unfold maxLen at hn'
  go_enter Try.func3, Try.ntmps3
  go_wp2_with fail
  refine (bytes_any r _ n il sl _ h hn).mono ?_
  rintro e w' ⟨⟨t, rfl⟩, rfl⟩
  cases t with
  | false =>
    go_wp2
    go_ret
    exact ⟨rfl, Below.refl _ _⟩
  | true =>
    go_wp2_with fail
    refine (weight_any _ n il sl _ h hn).mono ?_
    rintro e w1 ⟨⟨W, rfl, hWW⟩, k1⟩
    by_cases hW : 1048576 < W
    · clear hWW
      go_wp2
      go_ret
      exact ⟨rfl, k1.below⟩
    · have hb := hWW (by omega)
      rw [S_add] at hb
      have hsm : ∀ i, i < n → sl i ≤ 1048576 := fun i hi => by have := S_elem sl hi; omega
      have hn2 : n ≤ 65536 := by omega
      have hT := sum_facts il sl n
      have hT2 : S (cs (fun i => il (n - 1 - i)) (fun i => sl (n - 1 - i))) n = S (cs il sl) n := S_rev (cs il sl) n
      have HSM : Hid (∀ i, i < n → sl i ≤ 1048576) := hsm
      have hb2 : S (cs il sl) n ≤ 1048576 * 4 := by omega
      have hb3 : S il n + S sl n ≤ 1048576 := by omega
      have hTU : S il n + S sl n ≤ S (cs il sl) n := by omega
      have hTn : 32 * n ≤ S (cs il sl) n := by omega
      have HT2 : Hid (S (cs (fun i => il (n - 1 - i)) (fun i => sl (n - 1 - i))) n = S (cs il sl) n) := hT2
      clear hWW hb hsm hT hT2
      go_wp2_with fail
      refine (clone_any x c n il sl _ (h.old k1) hn2 HSM.out).mono ?_
      rintro e w2 ⟨g, c', rfl, hR, k2⟩
      have K2 := k1.trans k2
      clear k1 k2 h
      go_wp2_with (at_make; refine wpList_make_full _ rfl _ _ 23 rfl 0 29 ti _ 2 Try.underlying23 hi hz0 hz1 _ _ _ _ n rfl rfl (by omega) (by omega) ?b2 ?b3 (Nat.zero_le _) ?_)
      case b2 => rw [hz2]; omega
      case b3 => exact hn
      intro w3 hown hgrow
      have hV : Row2 w3 w2.heap.size 29 n (fun _ => False) (fun i => il (n - 1 - i)) (fun i => sl (n - 1 - i)) := Row2.made hown
      have hO : Old w2 w3 := (Old.refl w2).made hgrow
      clear hown hgrow
      obtain ⟨hg, hpr⟩ : g < w2.heap.size ∧ ∀ i, i < n → Pr w2 g i (il i) (sl i) := by
        rcases hR with ⟨h, _⟩ | ⟨g', c'', h, hg, hc⟩
        · cases h
        · cases h; exact ⟨hg, hc⟩
      have HPR : Hid (∀ i, i < n → Pr w2 g i (il i) (sl i)) := hpr
      clear hpr
      go_wp2
      go_loopw [6] (fun is wr => ∃ k : Nat, k ≤ n ∧ is = .int .i64 k ∧ Row2 wr w2.heap.size 29 n (fun i => n - k ≤ i) (fun i => il (n - 1 - i)) (fun i => sl (n - 1 - i)) ∧ Old w2 wr) (fun is _ => n - (intOf is).toNat)
      case atStart => exact ⟨0, Nat.zero_le _, rfl, hV.mono (fun i hi h => by omega), hO⟩
      case round =>
        clear hV hO
        obtain ⟨k, hk, rfl, hV, hO⟩ := hrel
        by_cases hlt : k < n
        · obtain ⟨s, a, d, c0, hs, c1⟩ := HPR.out k hlt
          rw [← hO.cell (p := ⟨g, k * 2, none⟩) hg] at c0
          rw [← hO.cell (p := ⟨g, k * 2 + 1, none⟩) hg] at c1
          obtain ⟨x0, hx0⟩ := hV.cell (j := (n - 1 - k) * 2) (by omega)
          obtain ⟨x1, hx1⟩ := hV.cell (j := (n - 1 - k) * 2 + 1) (by omega)
          have f0 := hV.free ((n - 1 - k) * 2)
          have f1 := hV.free ((n - 1 - k) * 2 + 1)
          have hset := hV.set (k := n - 1 - k) (by omega) (s := s) (a := a) (m := sl k) (d := d) (by show s.size = il (n - 1 - (n - 1 - k)); rw [hs]; congr 1; omega) (by show sl k = sl (n - 1 - (n - 1 - k)); congr 1; omega)
          have ho2 := (hO.setCell (a := ⟨w2.heap.size, (n - 1 - k) * 2, none⟩) (by simp) (.string s)).setCell (a := ⟨w2.heap.size, (n - 1 - k) * 2 + 1, none⟩) (by simp) (.slice a (sl k) d)
          generalize sl k = q at c1 hset ho2
          have HSET : Hid (Row2 ((wr.setCell ⟨w2.heap.size, (n - 1 - k) * 2, none⟩ (.string s)).setCell ⟨w2.heap.size, (n - 1 - k) * 2 + 1, none⟩ (.slice a q d)) w2.heap.size 29 n (fun i => n - k ≤ i ∨ i = n - 1 - k) (fun i => il (n - 1 - i)) (fun i => sl (n - 1 - i))) := hset
          have HO2 : Hid (Old w2 ((wr.setCell ⟨w2.heap.size, (n - 1 - k) * 2, none⟩ (.string s)).setCell ⟨w2.heap.size, (n - 1 - k) * 2 + 1, none⟩ (.slice a q d))) := ho2
          clear hset ho2 hs hV hO hb2 hb3 hTU hTn hR
          go_wp2
          go_roundw
          case rel => exact ⟨k + 1, by omega, by go_num, HSET.out.mono (fun i _ h => by omega), HO2.out⟩
          case measure => simp [intOf]; omega
        · obtain rfl : k = n := by omega
          have hRv : SRd wr (.slice (some ⟨w2.heap.size, 0, none⟩) k k) k (fun i => il (k - 1 - i)) (fun i => sl (k - 1 - i)) := hV.full (fun i _ => by omega) k
          have hRr : SRd wr (.slice (some ⟨g, 0, none⟩) k c') k il sl := hR.old hO
          have K3 := K2.trans hO
          clear hV hO hR K2
          go_wp2_with fail
          refine (tocert_any r g k c' il sl _ hn2 hRr).mono ?_
          rintro e w4 ⟨v4, rfl, h4, k4⟩
          go_wp2_with fail
          refine (zzsize_any r v4 k il sl _ h4 hn2 hb2).mono ?_
          rintro e w5 ⟨rfl, k5⟩
          go_wp2_with fail
          refine (tocert_any r w2.heap.size k k (fun i => il (k - 1 - i)) (fun i => sl (k - 1 - i)) _ hn2 ((hRv.old k4).old k5)).mono ?_
          rintro e w6 ⟨v6, rfl, h6, k6⟩
          go_wp2_with fail
          refine (zzsize_any r v6 k (fun i => il (k - 1 - i)) (fun i => sl (k - 1 - i)) _ h6 hn2 (by rw [HT2.out]; exact hb2)).mono ?_
          rintro e w7 ⟨rfl, k7⟩
          rw [HT2.out]
          have K7 := ((((K3.trans k4).trans k5).trans k6).trans k7)
          have hR7 := (((hRr.old k4).old k5).old k6).old k7
          have hid := idsig_any _ k il sl w7 hR7 hn2 hb3
          generalize S il k + S sl k = U at hid hb3 hTU
          generalize S (cs il sl) k = T at hTU hTn hb2 ⊢
          have qT : ((T : Int) == (T : Int)) = true := by simp
          have e1 : 32 * (k : Int) ≤ (T : Int) := by omega
          have e2 : (U : Int) ≤ (T : Int) := by omega
          clear hRr hRv hR7 k4 k5 k6 k7 h4 h6
          go_wp2_with (go_at_call 11; refine hid.mono ?_; rintro e w8 ⟨rfl, rfl⟩)
          go_ret
          exact ⟨rfl, K7.below⟩

theorem law3 (r : Int) (v : Value) (n : Nat) (il sl : Nat → Nat) (w : World) (h : SIn w v n il sl) (hn : n ≤ maxLen) :
    Calls Try.prog 3 #[.int .u32 r, v] w fun e w' => e = .returned (.bool true) ∧ Below w.heap.size w w' := by
  have h' := h
  rcases h with ⟨rfl, rfl⟩ | ⟨x, c, rfl, _⟩
  · exact law_nil r w
  · exact law_some r x c n il sl w h' hn
end Go.Proofs.Qxb6603824a
