/-
  THE WALKS, U, 2: unescape (24), ZZUnescape (10), zzB1UnescapeModel (11) at every input.
-/
import Derived.Test.Qxb6603725aWalkU
namespace Go.Proofs.Qxb6603725a
open Go.RowKit

theorem hexStep {d : List Int} {k : Nat} {x v a : Int} (h : d[k]? = some x) (hd : hexDig x = some v) : hexVal (d.drop k) a = hexVal (d.drop (k + 1)) (a * 16 + v) := by
  obtain ⟨hk, hx⟩ := List.getElem?_eq_some_iff.1 h
  rw [List.drop_eq_getElem_cons hk, hx, hexVal, hd]
theorem hexStop {d : List Int} {k : Nat} {x a : Int} (h : d[k]? = some x) (hd : hexDig x = none) : hexVal (d.drop k) a = none := by
  obtain ⟨hk, hx⟩ := List.getElem?_eq_some_iff.1 h
  rw [List.drop_eq_getElem_cons hk, hx, hexVal, hd]
theorem pow_bd {k : Nat} {a : Int} (hk : k ≤ 4) (h : a < (16 : Int) ^ k) : a ≤ 65535 := by
  rcases (show k = 0 ∨ k = 1 ∨ k = 2 ∨ k = 3 ∨ k = 4 by omega) with rfl | rfl | rfl | rfl | rfl <;> simp at h <;> omega
theorem pow_step {k : Nat} {a v : Int} (h : a < (16 : Int) ^ k) (hv : v ≤ 15) : a * 16 + v < (16 : Int) ^ (k + 1) := by
  rw [Int.pow_succ]; omega
theorem hexN_some {n : Nat} {r : List Int} {a : Int} (hl : n ≤ r.length) (h : hexVal (r.take n) 0 = some a) (h1 : 32 ≤ a) (h2 : a ≤ 126) : hexN n r = (a, (n : Int) + 1) := by
  unfold hexN
  rw [if_neg (by omega), h]
  simp [h1, h2]
theorem hexN_out {n : Nat} {r : List Int} {a : Int} (hl : n ≤ r.length) (h : hexVal (r.take n) 0 = some a) (h1 : ¬ (32 ≤ a ∧ a ≤ 126)) : hexN n r = (0, 0) := by
  unfold hexN
  rw [if_neg (by omega), h]
  simp only [if_neg h1]
theorem hexN_none {n : Nat} {r : List Int} (h : hexVal (r.take n) 0 = none) : hexN n r = (0, 0) := by
  unfold hexN
  rw [h]
  split <;> rfl
theorem dig_ways (x : Int) : (48 ≤ x ∧ x ≤ 57 ∧ hexDig x = some (x - 48)) ∨ (97 ≤ x ∧ x ≤ 102 ∧ hexDig x = some (x - 97 + 10)) ∨ (65 ≤ x ∧ x ≤ 70 ∧ hexDig x = some (x - 65 + 10)) ∨
    (x < 48 ∧ hexDig x = none) ∨ (57 < x ∧ x < 65 ∧ hexDig x = none) ∨ (70 < x ∧ x < 97 ∧ hexDig x = none) ∨ (102 < x ∧ hexDig x = none) := by
  unfold hexDig
  by_cases h1 : 48 ≤ x ∧ x ≤ 57
  · simp [h1]
  by_cases h2 : 97 ≤ x ∧ x ≤ 102
  · simp [h1, h2]
  by_cases h3 : 65 ≤ x ∧ x ≤ 70
  · simp [h1, h2, h3]
  simp only [if_neg h1, if_neg h2, if_neg h3]
  rcases (show x < 48 ∨ (57 < x ∧ x < 65) ∨ (70 < x ∧ x < 97) ∨ 102 < x by omega) with h | h | h | h
  · simp [h]
  · simp [h]
  · simp [h]
  · simp [h]

set_option maxHeartbeats 1600000 in
theorem unescape_hex2 (g o n c : Nat) (r : List Int) (w : World) (hl : r.length + 1 = n) (hnc : n ≤ c) (hmax : n ≤ 70368744177664) (hbyt : Byt r) (hcell0 : w.cell? ⟨g, o, none⟩ = some (.int .u8 120))
    (hcell : ∀ i, i < r.length → w.cell? ⟨g, o + 1 + i, none⟩ = some (.int .u8 (r.getD i 0))) :
    Calls Try.prog 24 #[.slice (some ⟨g, o, none⟩) n c] w fun e w' => e = .returned (.tuple #[.int .u8 (hexN 2 r).1, .int .i64 (hexN 2 r).2]) ∧ w = w' := by
  by_cases hlen : n < 3
  · have he : hexN 2 r = (0, 0) := by unfold hexN; rw [if_pos (by omega)]
    rw [he]
    clear he hcell
    have hn1 : 1 ≤ n := by omega
    go_enter Try.func24, Try.ntmps24
    go_wp2
    go_ret2
    exact ⟨rfl, rfl⟩
  · have hc1 : ¬ c = 1 := by omega
    have hc2 : 3 ≤ c := by omega
    have hlr : 2 ≤ r.length := by omega
    have hd : (r.take 2).length = 2 := by rw [List.length_take]; omega
    have HD : Hid ((r.take 2).length = 2) := hd
    have hcd : ∀ i, i < 2 → w.cell? ⟨g, o + 1 + i, none⟩ = some (.int .u8 ((r.take 2).getD i 0)) := fun i hi => by
      rw [hcell i (by omega)]
      congr 2
      simp only [List.getD_eq_getElem?_getD, List.getElem?_take]
      rw [if_pos hi]
    have hbd : Byt (r.take 2) := fun x hx => hbyt x (List.mem_of_mem_take hx)
    have hn0 : ((n : Int) == 0) = false := by simp; omega
    have hnle : ¬ (n : Int) ≤ 2 := by omega
    clear hd hcell
    go_enter Try.func24, Try.ntmps24
    go_wp2
    go_loop [5, 42] (fun cs ix => ∃ (k : Nat) (a : Int), k ≤ 2 ∧ ix = .int .i64 k ∧ cs = .int .i64 a ∧ 0 ≤ a ∧ a < (16 : Int) ^ k ∧ hexVal (r.take 2) 0 = hexVal ((r.take 2).drop k) a) (fun _ ix => 2 - (intOf ix).toNat)
    case atStart => exact ⟨0, 0, by omega, rfl, rfl, by omega, by decide, by simp⟩
    case round =>
      obtain ⟨k, a, hk, rfl, rfl, ha0, ha1, he⟩ := hrel
      have hab := pow_bd (by omega) ha1
      have HA : Hid (a < (16 : Int) ^ k) := ha1
      have HE : Hid (hexVal (r.take 2) 0 = hexVal ((r.take 2).drop k) a) := he
      clear ha1 he
      by_cases hlt : k < 2
      · have hc := hcd k hlt
        have HC := hid_get (r.take 2) k (by have := HD.out; omega)
        have hb := byt_get hbd k
        generalize (r.take 2).getD k 0 = x at hc HC hb
        obtain ⟨hb0, hb1⟩ := hb
        clear hcd
        rcases dig_ways x with ⟨x1, x2, hx⟩ | ⟨x1, x2, hx⟩ | ⟨x1, x2, hx⟩ | ⟨x1, hx⟩ | ⟨x1, x2, hx⟩ | ⟨x1, x2, hx⟩ | ⟨x1, hx⟩
        · have HX : Hid (hexDig x = some (x - 48)) := hx
          clear hx
          go_wp2
          go_round
          case rel => exact ⟨k + 1, a * 16 + (x - 48), by omega, by go_num, rfl, by omega, pow_step HA.out (by omega), by rw [HE.out]; exact hexStep HC.out HX.out⟩
          case measure => simp [intOf]; omega
        · have HX : Hid (hexDig x = some (x - 97 + 10)) := hx
          clear hx
          go_wp2
          go_round
          case rel => exact ⟨k + 1, a * 16 + (x - 97 + 10), by omega, by go_num, rfl, by omega, pow_step HA.out (by omega), by rw [HE.out]; exact hexStep HC.out HX.out⟩
          case measure => simp [intOf]; omega
        · have HX : Hid (hexDig x = some (x - 65 + 10)) := hx
          clear hx
          go_wp2
          go_round
          case rel => exact ⟨k + 1, a * 16 + (x - 65 + 10), by omega, by go_num, rfl, by omega, pow_step HA.out (by omega), by rw [HE.out]; exact hexStep HC.out HX.out⟩
          case measure => simp [intOf]; omega
        all_goals
          have HX : Hid (hexDig x = none) := hx
          clear hx
          go_wp2
          go_ret2
          exact ⟨tup_eq (hexN_none (by rw [HE.out]; exact hexStop HC.out HX.out)), rfl⟩
      · obtain rfl : k = 2 := by omega
        have HV : Hid (hexVal (r.take 2) 0 = some a) := by
          show hexVal (r.take 2) 0 = some a
          rw [HE.out, List.drop_of_length_le (by rw [HD.out]; omega)]
          rfl
        clear hcd
        by_cases h1 : a < 32
        · go_wp2
          go_ret2
          exact ⟨tup_eq (hexN_out hlr HV.out (by omega)), rfl⟩
        · by_cases h2 : 126 < a
          · go_wp2
            go_ret2
            exact ⟨tup_eq (hexN_out hlr HV.out (by omega)), rfl⟩
          · go_wp2
            go_ret2
            exact ⟨tup_eq (hexN_some hlr HV.out (by omega) (by omega)), rfl⟩

set_option maxHeartbeats 1600000 in
theorem unescape_hex4 (g o n c : Nat) (r : List Int) (w : World) (hl : r.length + 1 = n) (hnc : n ≤ c) (hmax : n ≤ 70368744177664) (hbyt : Byt r) (hcell0 : w.cell? ⟨g, o, none⟩ = some (.int .u8 117))
    (hcell : ∀ i, i < r.length → w.cell? ⟨g, o + 1 + i, none⟩ = some (.int .u8 (r.getD i 0))) :
    Calls Try.prog 24 #[.slice (some ⟨g, o, none⟩) n c] w fun e w' => e = .returned (.tuple #[.int .u8 (hexN 4 r).1, .int .i64 (hexN 4 r).2]) ∧ w = w' := by
  by_cases hlen : n < 5
  · have he : hexN 4 r = (0, 0) := by unfold hexN; rw [if_pos (by omega)]
    rw [he]
    clear he hcell
    have hn1 : 1 ≤ n := by omega
    go_enter Try.func24, Try.ntmps24
    go_wp2
    go_ret2
    exact ⟨rfl, rfl⟩
  · have hc1 : ¬ c = 1 := by omega
    have hc2 : 5 ≤ c := by omega
    have hlr : 4 ≤ r.length := by omega
    have hd : (r.take 4).length = 4 := by rw [List.length_take]; omega
    have HD : Hid ((r.take 4).length = 4) := hd
    have hcd : ∀ i, i < 4 → w.cell? ⟨g, o + 1 + i, none⟩ = some (.int .u8 ((r.take 4).getD i 0)) := fun i hi => by
      rw [hcell i (by omega)]
      congr 2
      simp only [List.getD_eq_getElem?_getD, List.getElem?_take]
      rw [if_pos hi]
    have hbd : Byt (r.take 4) := fun x hx => hbyt x (List.mem_of_mem_take hx)
    have hn0 : ((n : Int) == 0) = false := by simp; omega
    have hnle : ¬ (n : Int) ≤ 4 := by omega
    clear hd hcell
    go_enter Try.func24, Try.ntmps24
    go_wp2
    go_loop [5, 42] (fun cs ix => ∃ (k : Nat) (a : Int), k ≤ 4 ∧ ix = .int .i64 k ∧ cs = .int .i64 a ∧ 0 ≤ a ∧ a < (16 : Int) ^ k ∧ hexVal (r.take 4) 0 = hexVal ((r.take 4).drop k) a) (fun _ ix => 4 - (intOf ix).toNat)
    case atStart => exact ⟨0, 0, by omega, rfl, rfl, by omega, by decide, by simp⟩
    case round =>
      obtain ⟨k, a, hk, rfl, rfl, ha0, ha1, he⟩ := hrel
      have hab := pow_bd (by omega) ha1
      have HA : Hid (a < (16 : Int) ^ k) := ha1
      have HE : Hid (hexVal (r.take 4) 0 = hexVal ((r.take 4).drop k) a) := he
      clear ha1 he
      by_cases hlt : k < 4
      · have hc := hcd k hlt
        have HC := hid_get (r.take 4) k (by have := HD.out; omega)
        have hb := byt_get hbd k
        generalize (r.take 4).getD k 0 = x at hc HC hb
        obtain ⟨hb0, hb1⟩ := hb
        clear hcd
        rcases dig_ways x with ⟨x1, x2, hx⟩ | ⟨x1, x2, hx⟩ | ⟨x1, x2, hx⟩ | ⟨x1, hx⟩ | ⟨x1, x2, hx⟩ | ⟨x1, x2, hx⟩ | ⟨x1, hx⟩
        · have HX : Hid (hexDig x = some (x - 48)) := hx
          clear hx
          go_wp2
          go_round
          case rel => exact ⟨k + 1, a * 16 + (x - 48), by omega, by go_num, rfl, by omega, pow_step HA.out (by omega), by rw [HE.out]; exact hexStep HC.out HX.out⟩
          case measure => simp [intOf]; omega
        · have HX : Hid (hexDig x = some (x - 97 + 10)) := hx
          clear hx
          go_wp2
          go_round
          case rel => exact ⟨k + 1, a * 16 + (x - 97 + 10), by omega, by go_num, rfl, by omega, pow_step HA.out (by omega), by rw [HE.out]; exact hexStep HC.out HX.out⟩
          case measure => simp [intOf]; omega
        · have HX : Hid (hexDig x = some (x - 65 + 10)) := hx
          clear hx
          go_wp2
          go_round
          case rel => exact ⟨k + 1, a * 16 + (x - 65 + 10), by omega, by go_num, rfl, by omega, pow_step HA.out (by omega), by rw [HE.out]; exact hexStep HC.out HX.out⟩
          case measure => simp [intOf]; omega
        all_goals
          have HX : Hid (hexDig x = none) := hx
          clear hx
          go_wp2
          go_ret2
          exact ⟨tup_eq (hexN_none (by rw [HE.out]; exact hexStop HC.out HX.out)), rfl⟩
      · obtain rfl : k = 4 := by omega
        have HV : Hid (hexVal (r.take 4) 0 = some a) := by
          show hexVal (r.take 4) 0 = some a
          rw [HE.out, List.drop_of_length_le (by rw [HD.out]; omega)]
          rfl
        clear hcd
        by_cases h1 : a < 32
        · go_wp2
          go_ret2
          exact ⟨tup_eq (hexN_out hlr HV.out (by omega)), rfl⟩
        · by_cases h2 : 126 < a
          · go_wp2
            go_ret2
            exact ⟨tup_eq (hexN_out hlr HV.out (by omega)), rfl⟩
          · go_wp2
            go_ret2
            exact ⟨tup_eq (hexN_some hlr HV.out (by omega) (by omega)), rfl⟩

/-- The tail of what is read. -/
theorem rd_cons {w : World} {g o n c : Nat} {ch : Int} {r : List Int} (h : Rd w (.slice (some ⟨g, o, none⟩) n c) (ch :: r)) :
    n = r.length + 1 ∧ n ≤ c ∧ w.cell? ⟨g, o, none⟩ = some (.int .u8 ch) ∧ ∀ i, i < r.length → w.cell? ⟨g, o + 1 + i, none⟩ = some (.int .u8 (r.getD i 0)) := by
  obtain ⟨g', o', e, hn, hc, _, _, hcell⟩ := h.addr (by simp)
  cases e
  rw [List.length_cons] at hn hc hcell
  refine ⟨hn, by omega, by simpa using hcell 0 (by omega), fun i hi => ?_⟩
  rw [Nat.add_assoc, Nat.add_comm 1 i]
  simpa using hcell (i + 1) (by omega)

/-- zzB1UnescapeModel: the table's answer. -/
theorem model_any (v : Value) (l : List Int) (w : World) (h : Rd w v l) (hb : Byt l) (hmax : l.length ≤ 1048576) :
    Calls Try.prog 11 #[v] w fun e w' => e = .returned (.tuple #[.int .u8 (unesc l).1, .int .i64 (unesc l).2]) ∧ w = w' := by
  obtain ⟨a, c, rfl⟩ := h.form
  cases l with
  | nil => exact model_empty a c w
  | cons ch r =>
    obtain ⟨g, o, rfl, -, -⟩ := h.addr (by simp)
    obtain ⟨h1, h2, h3, h4⟩ := rd_cons h
    have hr : Byt r := fun x hx => hb x (List.mem_cons_of_mem _ hx)
    rcases unesc_ways ch r with ⟨k, he⟩ | ⟨k, he⟩ | ⟨k, he⟩ | ⟨k, he⟩ | ⟨k, he⟩ | ⟨rfl, he⟩ | ⟨rfl, he⟩ | ⟨_, _, _, _, _, k6, k7, he⟩
    case inr.inr.inr.inr.inr.inl => rw [he]; exact model_hex2 g o _ c r w rfl h2 hmax hr h3 h4
    case inr.inr.inr.inr.inr.inr.inl => rw [he]; exact model_hex4 g o _ c r w rfl h2 hmax hr h3 h4
    case inr.inr.inr.inr.inr.inr.inr => exact model_one g o _ c ch r w (by simp) h3 k6 k7
    all_goals exact model_one g o _ c ch r w (by simp) h3 (by rw [k]; decide) (by rw [k]; decide)

/-- unescape: the same. -/
theorem unescape_any (v : Value) (l : List Int) (w : World) (h : Rd w v l) (hb : Byt l) (hmax : l.length ≤ 70368744177664) :
    Calls Try.prog 24 #[v] w fun e w' => e = .returned (.tuple #[.int .u8 (unesc l).1, .int .i64 (unesc l).2]) ∧ w = w' := by
  obtain ⟨a, c, rfl⟩ := h.form
  cases l with
  | nil => exact unescape_empty a c w
  | cons ch r =>
    obtain ⟨g, o, rfl, -, -⟩ := h.addr (by simp)
    obtain ⟨h1, h2, h3, h4⟩ := rd_cons h
    have hr : Byt r := fun x hx => hb x (List.mem_cons_of_mem _ hx)
    rcases unesc_ways ch r with ⟨k, he⟩ | ⟨k, he⟩ | ⟨k, he⟩ | ⟨k, he⟩ | ⟨k, he⟩ | ⟨rfl, he⟩ | ⟨rfl, he⟩ | ⟨_, _, _, _, _, k6, k7, he⟩
    case inr.inr.inr.inr.inr.inl => rw [he]; exact unescape_hex2 g o _ c r w rfl h2 hmax hr h3 h4
    case inr.inr.inr.inr.inr.inr.inl => rw [he]; exact unescape_hex4 g o _ c r w rfl h2 hmax hr h3 h4
    case inr.inr.inr.inr.inr.inr.inr => exact unescape_one g o _ c ch r w (by simp) h3 k6 k7
    all_goals exact unescape_one g o _ c ch r w (by simp) h3 (by rw [k]; decide) (by rw [k]; decide)

theorem zzunescape_any (v : Value) (l : List Int) (w : World) (h : Rd w v l) (hb : Byt l) (hmax : l.length ≤ 70368744177664) :
    Calls Try.prog 10 #[v] w fun e w' => e = .returned (.tuple #[.int .u8 (unesc l).1, .int .i64 (unesc l).2]) ∧ w = w' := by
  go_enter Try.func10, Try.ntmps10
  go_wp2_with (go_at_call 24; refine (unescape_any _ l _ h hb hmax).mono ?_; rintro e w' ⟨rfl, rfl⟩)
  go_ret2
  exact ⟨rfl, rfl⟩
end Go.Proofs.Qxb6603725a
