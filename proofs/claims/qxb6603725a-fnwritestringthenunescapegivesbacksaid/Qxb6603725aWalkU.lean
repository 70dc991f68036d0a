/-
  THE WALKS, U: zzB1HexDigitIs (29), zzB1SpellsHex (25), zzB1UnescapeModel (11), unescape (24), ZZUnescape (10).
-/
import Derived.Test.Qxb6603725aWalkA
import Derived.Test.Qxb6603725aPlain2
namespace Go.Proofs.Qxb6603725a
open Go.RowKit

theorem hexdig_any (c v : Int) (w : World) (h0 : 0 ≤ c) (h1 : c ≤ 255) (v0 : 0 ≤ v) (v1 : v ≤ 15) : Calls Try.prog 29 #[.int .u8 c, .int .i64 v] w fun e w' => e = .returned (.bool (digIs c v)) ∧ w = w' := by
  by_cases hv : v < 10
  · by_cases hc : c = 48 + v
    · have hd : digIs c v = true := by simp [digIs, hv, hc]
      have hq : (c == 48 + v) = true := by simpa using hc
      clear hc
      go_enter Try.func29, Try.ntmps29
      go_wp2
      go_ret
      exact ⟨ret_bool (by rw [hd]; try exact hq), rfl⟩
    · have hd : digIs c v = false := by simp [digIs, hv, hc]
      have hq : (c == 48 + v) = false := by simpa using hc
      clear hc
      go_enter Try.func29, Try.ntmps29
      go_wp2
      go_ret
      exact ⟨ret_bool (by rw [hd]; try exact hq), rfl⟩
  · by_cases hc : c = 97 + v - 10
    · have hd : digIs c v = true := by simp [digIs, hv, hc]
      have hq : (c == 97 + v - 10) = true := by simpa using hc
      clear hc
      go_enter Try.func29, Try.ntmps29
      go_wp2
      go_ret
      exact ⟨rfl, rfl⟩
    · have hq : (c == 97 + v - 10) = false := by simpa using hc
      by_cases hc2 : c = 65 + v - 10
      · have hd : digIs c v = true := by simp [digIs, hv, hc2]
        have hq2 : (c == 65 + v - 10) = true := by simpa using hc2
        clear hc hc2
        go_enter Try.func29, Try.ntmps29
        go_wp2
        go_ret
        exact ⟨rfl, rfl⟩
      · have hd : digIs c v = false := by simp [digIs, hv, hc, hc2]
        have hq2 : (c == 65 + v - 10) = false := by simpa using hc2
        clear hc hc2
        go_enter Try.func29, Try.ntmps29
        go_wp2
        go_ret
        exact ⟨rfl, rfl⟩
/-! SPELLS -/
theorem spells_nil (c : Int) : spells [] c = decide (c = 0) := rfl
theorem spells_snoc (d : List Int) (x c : Int) : spells (d ++ [x]) c = (digIs x (c % 16) && spells d (c / 16)) := by simp [spells, spR]
theorem spells_take {d : List Int} {m : Nat} {x : Int} (c : Int) (h : d[m]? = some x) : spells (d.take (m + 1)) c = (digIs x (c % 16) && spells (d.take m) (c / 16)) := by
  rw [List.take_add_one, h]
  exact spells_snoc _ _ _
theorem byt_get {l : List Int} (h : Byt l) (k : Nat) : 0 ≤ l.getD k 0 ∧ l.getD k 0 ≤ 255 := by
  by_cases hk : k < l.length
  · have : l.getD k 0 = l[k] := by simp [hk]
    rw [this]
    exact h _ (List.getElem_mem hk)
  · have : l.getD k 0 = 0 := by simp [Nat.le_of_not_lt hk]
    rw [this]; omega

theorem spells_any (g o n c : Nat) (d : List Int) (code : Int) (w : World) (hn : d.length = n) (hmax : n ≤ 1048576) (hbyt : Byt d) (h0 : 0 ≤ code) (h1 : code ≤ 1000000)
    (hcell : ∀ i, i < n → w.cell? ⟨g, o + i, none⟩ = some (.int .u8 (d.getD i 0))) :
    Calls Try.prog 25 #[.slice (some ⟨g, o, none⟩) n c, .int .i64 code] w fun e w' => e = .returned (.bool (spells d code)) ∧ w = w' := by
  go_enter Try.func25, Try.ntmps25
  go_wp2
  go_loop [1, 5] (fun cs ks => ∃ (m : Nat) (cc : Int), m ≤ n ∧ ks = .int .i64 ((m : Int) - 1) ∧ cs = .int .i64 cc ∧ 0 ≤ cc ∧ cc ≤ 1000000 ∧ spells d code = spells (d.take m) cc) (fun _ ks => (intOf ks + 1).toNat)
  case atStart => exact ⟨n, code, Nat.le_refl _, rfl, rfl, h0, h1, by rw [List.take_of_length_le (by omega)]⟩
  case round =>
    obtain ⟨m, cc, hm, rfl, rfl, hc0, hc1, he⟩ := hrel
    have HE : Hid (spells d code = spells (d.take m) cc) := he
    clear he
    cases m with
    | zero =>
      clear hcell
      by_cases hz : cc = 0
      · subst hz
        go_wp2
        go_ret
        exact ⟨ret_bool (by rw [HE.out]; simp [spells_nil]), rfl⟩
      · have hq : (cc == 0) = false := by simpa using hz
        go_wp2
        go_ret
        exact ⟨ret_bool (by rw [HE.out]; simp [spells_nil, hz]), rfl⟩
    | succ m =>
      have hc := hcell m (by omega)
      have HC := hid_get d m (by omega)
      have hb := byt_get hbyt m
      have e1 : ((m + 1 : Nat) : Int) - 1 = (m : Int) := by omega
      generalize d.getD m 0 = x at hc HC hb
      obtain ⟨hb0, hb1⟩ := hb
      rw [e1]
      clear e1 hcell
      cases hd : digIs x (cc % 16) with
      | true =>
        have HD : Hid (digIs x (cc % 16) = true) := hd
        clear hd
        go_wp2_with (go_at_call 29; refine (hexdig_any _ _ _ (by omega) (by omega) (by omega) (by omega)).mono ?_; rintro e w' ⟨rfl, rfl⟩; rw [HD.out])
        go_round
        case rel => exact ⟨m, cc / 16, by omega, rfl, rfl, by omega, by omega, by rw [HE.out, spells_take cc HC.out, HD.out, Bool.true_and]⟩
        case measure => simp [intOf]
      | false =>
        have HD : Hid (digIs x (cc % 16) = false) := hd
        clear hd
        go_wp2_with (go_at_call 29; refine (hexdig_any _ _ _ (by omega) (by omega) (by omega) (by omega)).mono ?_; rintro e w' ⟨rfl, rfl⟩; rw [HD.out])
        go_ret
        exact ⟨ret_bool (by rw [HE.out, spells_take cc HC.out, HD.out, Bool.false_and]), rfl⟩
/-! THE MODEL -/
theorem tup {a b : Int} {p : Int × Int} (h1 : a = p.1) (h2 : b = p.2) : Ending.returned (.tuple #[.int .u8 a, .int .i64 b]) = .returned (.tuple #[.int .u8 p.1, .int .i64 p.2]) := by rw [h1, h2]
theorem tup_eq {a b : Int} {p : Int × Int} (h : p = (a, b)) : Ending.returned (.tuple #[.int .u8 a, .int .i64 b]) = .returned (.tuple #[.int .u8 p.1, .int .i64 p.2]) := by rw [h]

theorem model_empty (a : Option Addr) (c : Nat) (w : World) : Calls Try.prog 11 #[.slice a 0 c] w fun e w' => e = .returned (.tuple #[.int .u8 (unesc []).1, .int .i64 (unesc []).2]) ∧ w = w' := by
  go_enter Try.func11, Try.ntmps11
  go_wp2
  go_ret2
  exact ⟨rfl, rfl⟩
theorem unescape_empty (a : Option Addr) (c : Nat) (w : World) : Calls Try.prog 24 #[.slice a 0 c] w fun e w' => e = .returned (.tuple #[.int .u8 (unesc []).1, .int .i64 (unesc []).2]) ∧ w = w' := by
  go_enter Try.func24, Try.ntmps24
  go_wp2
  go_ret2
  exact ⟨rfl, rfl⟩

/-- No number from 32 on, below cc, is spelt. -/
def noneBelow (d : List Int) (cc : Int) : Prop := ∀ x : Int, 32 ≤ x → x < cc → spells d x = false
theorem noneBelow_step {d : List Int} {cc : Int} (h : noneBelow d cc) (hs : spells d cc = false) : noneBelow d (cc + 1) := fun x h1 h2 => by
  by_cases hx : x = cc
  · rw [hx]; exact hs
  · exact h x h1 (by omega)

/-- The ways of the first byte. -/
theorem unesc_ways (c : Int) (r : List Int) : (c = 34 ∧ unesc (c :: r) = (34, 1)) ∨ (c = 92 ∧ unesc (c :: r) = (92, 1)) ∨ (c = 110 ∧ unesc (c :: r) = (10, 1)) ∨ (c = 116 ∧ unesc (c :: r) = (9, 1)) ∨ (c = 114 ∧ unesc (c :: r) = (13, 1)) ∨
    (c = 120 ∧ unesc (c :: r) = hexN 2 r) ∨ (c = 117 ∧ unesc (c :: r) = hexN 4 r) ∨ (c ≠ 34 ∧ c ≠ 92 ∧ c ≠ 110 ∧ c ≠ 116 ∧ c ≠ 114 ∧ c ≠ 120 ∧ c ≠ 117 ∧ unesc (c :: r) = (0, 0)) := by
  unfold unesc
  by_cases h1 : c = 34
  · simp [h1]
  by_cases h2 : c = 92
  · simp [h2]
  by_cases h3 : c = 110
  · simp [h3]
  by_cases h4 : c = 116
  · simp [h4]
  by_cases h5 : c = 114
  · simp [h5]
  by_cases h6 : c = 120
  · simp [h6]
  by_cases h7 : c = 117
  · simp [h7]
  simp [h1, h2, h3, h4, h5, h6, h7]

theorem model_one (g o n c : Nat) (ch : Int) (r : List Int) (w : World) (hn : 1 ≤ n) (hcell : w.cell? ⟨g, o, none⟩ = some (.int .u8 ch)) (h1 : ch ≠ 120) (h2 : ch ≠ 117) :
    Calls Try.prog 11 #[.slice (some ⟨g, o, none⟩) n c] w fun e w' => e = .returned (.tuple #[.int .u8 (unesc (ch :: r)).1, .int .i64 (unesc (ch :: r)).2]) ∧ w = w' := by
  rcases unesc_ways ch r with ⟨rfl, he⟩ | ⟨rfl, he⟩ | ⟨rfl, he⟩ | ⟨rfl, he⟩ | ⟨rfl, he⟩ | ⟨rfl, he⟩ | ⟨rfl, he⟩ | ⟨k1, k2, k3, k4, k5, k6, k7, he⟩
  case inr.inr.inr.inr.inr.inl => exact absurd rfl h1
  case inr.inr.inr.inr.inr.inr.inl => exact absurd rfl h2
  all_goals
    rw [he]
    clear he
    go_enter Try.func11, Try.ntmps11
    go_wp2
    go_ret2
    exact ⟨rfl, rfl⟩

theorem unescape_one (g o n c : Nat) (ch : Int) (r : List Int) (w : World) (hn : 1 ≤ n) (hcell : w.cell? ⟨g, o, none⟩ = some (.int .u8 ch)) (h1 : ch ≠ 120) (h2 : ch ≠ 117) :
    Calls Try.prog 24 #[.slice (some ⟨g, o, none⟩) n c] w fun e w' => e = .returned (.tuple #[.int .u8 (unesc (ch :: r)).1, .int .i64 (unesc (ch :: r)).2]) ∧ w = w' := by
  rcases unesc_ways ch r with ⟨rfl, he⟩ | ⟨rfl, he⟩ | ⟨rfl, he⟩ | ⟨rfl, he⟩ | ⟨rfl, he⟩ | ⟨rfl, he⟩ | ⟨rfl, he⟩ | ⟨k1, k2, k3, k4, k5, k6, k7, he⟩
  case inr.inr.inr.inr.inr.inl => exact absurd rfl h1
  case inr.inr.inr.inr.inr.inr.inl => exact absurd rfl h2
  all_goals
    rw [he]
    clear he
    go_enter Try.func24, Try.ntmps24
    go_wp2
    go_ret2
    exact ⟨rfl, rfl⟩

set_option maxHeartbeats 800000 in
theorem model_hex2 (g o n c : Nat) (r : List Int) (w : World) (hl : r.length + 1 = n) (hnc : n ≤ c) (hmax : n ≤ 1048576) (hbyt : Byt r) (hcell0 : w.cell? ⟨g, o, none⟩ = some (.int .u8 120))
    (hcell : ∀ i, i < r.length → w.cell? ⟨g, o + 1 + i, none⟩ = some (.int .u8 (r.getD i 0))) :
    Calls Try.prog 11 #[.slice (some ⟨g, o, none⟩) n c] w fun e w' => e = .returned (.tuple #[.int .u8 (hexN 2 r).1, .int .i64 (hexN 2 r).2]) ∧ w = w' := by
  by_cases hlen : n < 3
  · have he : hexN 2 r = (0, 0) := by unfold hexN; rw [if_pos (by omega)]
    rw [he]
    clear he hcell
    have hn1 : 1 ≤ n := by omega
    go_enter Try.func11, Try.ntmps11
    go_wp2
    go_ret2
    exact ⟨rfl, rfl⟩
  · have hc1 : ¬ c = 1 := by omega
    have hc2 : 3 ≤ c := by omega
    have hd : (r.take 2).length = 2 := by rw [List.length_take]; omega
    have HD : Hid ((r.take 2).length = 2) := hd
    have hcd : ∀ i, i < 2 → w.cell? ⟨g, o + 1 + i, none⟩ = some (.int .u8 ((r.take 2).getD i 0)) := fun i hi => by
      rw [hcell i (by omega)]
      congr 2
      simp only [List.getD_eq_getElem?_getD, List.getElem?_take]
      rw [if_pos hi]
    have hbd : Byt (r.take 2) := fun x hx => hbyt x (List.mem_of_mem_take hx)
    have hn0 : ((n : Int) == 0) = false := by simp; omega
    clear hd hcell
    go_enter Try.func11, Try.ntmps11
    go_wp2
    go_loop [5] (fun cs => ∃ cc : Int, 32 ≤ cc ∧ cc ≤ 127 ∧ cs = .int .i64 cc ∧ noneBelow (r.take 2) cc) (fun cs => (127 - intOf cs).toNat)
    case atStart => exact ⟨32, by omega, by omega, rfl, fun x h1 h2 => by omega⟩
    case round =>
      obtain ⟨cc, hc3, hc4, rfl, hno⟩ := hrel
      have HNO : Hid (noneBelow (r.take 2) cc) := hno
      clear hno
      by_cases hle : cc ≤ 126
      · cases hsp : spells (r.take 2) cc with
        | true =>
          have HS : Hid (spells (r.take 2) cc = true) := hsp
          clear hsp
          go_wp2_with (go_at_call 25; refine (spells_any _ _ _ _ (r.take 2) cc _ HD.out (by omega) hbd (by omega) (by omega) hcd).mono ?_; rintro e w' ⟨rfl, rfl⟩; rw [HS.out])
          go_ret2
          exact ⟨tup_eq (hexN_hit 2 r cc (by omega) hc3 hle HS.out), rfl⟩
        | false =>
          have HS : Hid (spells (r.take 2) cc = false) := hsp
          clear hsp
          go_wp2_with (go_at_call 25; refine (spells_any _ _ _ _ (r.take 2) cc _ HD.out (by omega) hbd (by omega) (by omega) hcd).mono ?_; rintro e w' ⟨rfl, rfl⟩; rw [HS.out])
          go_round
          case rel => exact ⟨cc + 1, by omega, by omega, rfl, noneBelow_step HNO.out HS.out⟩
          case measure => simp [intOf]; omega
      · go_wp2
        go_ret2
        exact ⟨tup_eq (hexN_miss 2 r (fun x h1 h2 => HNO.out x h1 (by omega))), rfl⟩

set_option maxHeartbeats 800000 in
theorem model_hex4 (g o n c : Nat) (r : List Int) (w : World) (hl : r.length + 1 = n) (hnc : n ≤ c) (hmax : n ≤ 1048576) (hbyt : Byt r) (hcell0 : w.cell? ⟨g, o, none⟩ = some (.int .u8 117))
    (hcell : ∀ i, i < r.length → w.cell? ⟨g, o + 1 + i, none⟩ = some (.int .u8 (r.getD i 0))) :
    Calls Try.prog 11 #[.slice (some ⟨g, o, none⟩) n c] w fun e w' => e = .returned (.tuple #[.int .u8 (hexN 4 r).1, .int .i64 (hexN 4 r).2]) ∧ w = w' := by
  by_cases hlen : n < 5
  · have he : hexN 4 r = (0, 0) := by unfold hexN; rw [if_pos (by omega)]
    rw [he]
    clear he hcell
    have hn1 : 1 ≤ n := by omega
    go_enter Try.func11, Try.ntmps11
    go_wp2
    go_ret2
    exact ⟨rfl, rfl⟩
  · have hc1 : ¬ c = 1 := by omega
    have hc2 : 5 ≤ c := by omega
    have hd : (r.take 4).length = 4 := by rw [List.length_take]; omega
    have HD : Hid ((r.take 4).length = 4) := hd
    have hcd : ∀ i, i < 4 → w.cell? ⟨g, o + 1 + i, none⟩ = some (.int .u8 ((r.take 4).getD i 0)) := fun i hi => by
      rw [hcell i (by omega)]
      congr 2
      simp only [List.getD_eq_getElem?_getD, List.getElem?_take]
      rw [if_pos hi]
    have hbd : Byt (r.take 4) := fun x hx => hbyt x (List.mem_of_mem_take hx)
    have hn0 : ((n : Int) == 0) = false := by simp; omega
    clear hd hcell
    go_enter Try.func11, Try.ntmps11
    go_wp2
    go_loop [5] (fun cs => ∃ cc : Int, 32 ≤ cc ∧ cc ≤ 127 ∧ cs = .int .i64 cc ∧ noneBelow (r.take 4) cc) (fun cs => (127 - intOf cs).toNat)
    case atStart => exact ⟨32, by omega, by omega, rfl, fun x h1 h2 => by omega⟩
    case round =>
      obtain ⟨cc, hc3, hc4, rfl, hno⟩ := hrel
      have HNO : Hid (noneBelow (r.take 4) cc) := hno
      clear hno
      by_cases hle : cc ≤ 126
      · cases hsp : spells (r.take 4) cc with
        | true =>
          have HS : Hid (spells (r.take 4) cc = true) := hsp
          clear hsp
          go_wp2_with (go_at_call 25; refine (spells_any _ _ _ _ (r.take 4) cc _ HD.out (by omega) hbd (by omega) (by omega) hcd).mono ?_; rintro e w' ⟨rfl, rfl⟩; rw [HS.out])
          go_ret2
          exact ⟨tup_eq (hexN_hit 4 r cc (by omega) hc3 hle HS.out), rfl⟩
        | false =>
          have HS : Hid (spells (r.take 4) cc = false) := hsp
          clear hsp
          go_wp2_with (go_at_call 25; refine (spells_any _ _ _ _ (r.take 4) cc _ HD.out (by omega) hbd (by omega) (by omega) hcd).mono ?_; rintro e w' ⟨rfl, rfl⟩; rw [HS.out])
          go_round
          case rel => exact ⟨cc + 1, by omega, by omega, rfl, noneBelow_step HNO.out HS.out⟩
          case measure => simp [intOf]; omega
      · go_wp2
        go_ret2
        exact ⟨tup_eq (hexN_miss 4 r (fun x h1 h2 => HNO.out x h1 (by omega))), rfl⟩
end Go.Proofs.Qxb6603725a
