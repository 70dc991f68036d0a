/-
  THE PLAIN FUNCTIONS AND THEIR LAWS, 2: the escapes that unescape reads. No Go in sight.
-/
import Derived.Test.Qxb6603725aPlain
namespace Go.Proofs.Qxb6603725a

/-- What a hex digit stands for. -/
def hexDig (c : Int) : Option Int :=
  if 48 ≤ c ∧ c ≤ 57 then some (c - 48) else if 97 ≤ c ∧ c ≤ 102 then some (c - 97 + 10) else if 65 ≤ c ∧ c ≤ 70 then some (c - 65 + 10) else none

/-- The number that a row of hex digits writes, behind a. -/
def hexVal : List Int → Int → Option Int
  | [], a => some a
  | c :: r, a => match hexDig c with
    | some d => hexVal r (a * 16 + d)
    | none => none

/-- An escape of n hex digits: a printable character, or nothing. -/
def hexN (n : Nat) (r : List Int) : Int × Int :=
  if r.length < n then (0, 0) else match hexVal (r.take n) 0 with
    | some code => if 32 ≤ code ∧ code ≤ 126 then (code, (n : Int) + 1) else (0, 0)
    | none => (0, 0)

/-- What unescape answers. -/
def unesc : List Int → Int × Int
  | [] => (0, 0)
  | c :: r =>
    if c = 34 then (34, 1) else if c = 92 then (92, 1) else if c = 110 then (10, 1) else if c = 116 then (9, 1) else if c = 114 then (13, 1)
    else if c = 120 then hexN 2 r else if c = 117 then hexN 4 r else (0, 0)

/-- Does c write the hex digit v? -/
def digIs (c v : Int) : Bool := if v < 10 then decide (c = 48 + v) else (decide (c = 97 + v - 10) || decide (c = 65 + v - 10))

/-- The digits, the last one first. -/
def spR : List Int → Int → Bool
  | [], c => decide (c = 0)
  | x :: r, c => digIs x (c % 16) && spR r (c / 16)

theorem hexDig_range {c d : Int} (h : hexDig c = some d) : 0 ≤ d ∧ d ≤ 15 := by
  unfold hexDig at h
  split at h
  · cases h; omega
  · split at h
    · cases h; omega
    · split at h
      · cases h; omega
      · cases h

theorem digIs_iff (c v : Int) (h0 : 0 ≤ v) (h1 : v ≤ 15) : digIs c v = true ↔ hexDig c = some v := by
  unfold digIs hexDig
  by_cases hv : v < 10
  · rw [if_pos hv]
    by_cases hc : 48 ≤ c ∧ c ≤ 57
    · rw [if_pos hc]; simp; omega
    · rw [if_neg hc]
      by_cases hc2 : 97 ≤ c ∧ c ≤ 102
      · rw [if_pos hc2]; simp; omega
      · rw [if_neg hc2]
        by_cases hc3 : 65 ≤ c ∧ c ≤ 70
        · rw [if_pos hc3]; simp; omega
        · rw [if_neg hc3]; simp; omega
  · rw [if_neg hv]
    by_cases hc : 48 ≤ c ∧ c ≤ 57
    · rw [if_pos hc]; simp; omega
    · rw [if_neg hc]
      by_cases hc2 : 97 ≤ c ∧ c ≤ 102
      · rw [if_pos hc2]; simp; omega
      · rw [if_neg hc2]
        by_cases hc3 : 65 ≤ c ∧ c ≤ 70
        · rw [if_pos hc3]; simp; omega
        · rw [if_neg hc3]; simp; omega

theorem hexVal_snoc (d : List Int) (x a : Int) : hexVal (d ++ [x]) a = (hexVal d a).bind fun y => (hexDig x).map fun v => y * 16 + v := by
  induction d generalizing a with
  | nil => simp only [List.nil_append, hexVal]; cases hexDig x <;> rfl
  | cons c r ih =>
    simp only [List.cons_append, hexVal]
    cases hexDig c with
    | none => rfl
    | some d => exact ih _

theorem hexVal_nonneg (d : List Int) (a y : Int) (ha : 0 ≤ a) (h : hexVal d a = some y) : 0 ≤ y := by
  induction d generalizing a with
  | nil => simp only [hexVal, Option.some.injEq] at h; omega
  | cons c r ih =>
    simp only [hexVal] at h
    cases hd : hexDig c with
    | none => rw [hd] at h; cases h
    | some e => rw [hd] at h; have := hexDig_range hd; exact ih _ (by omega) h

/-- TO SPELL A NUMBER IS TO WRITE IT. -/
theorem spR_iff (r : List Int) (c : Int) (hc : 0 ≤ c) : spR r c = true ↔ hexVal r.reverse 0 = some c := by
  induction r generalizing c with
  | nil => simp [spR, hexVal, eq_comm]
  | cons x r ih =>
    rw [spR, Bool.and_eq_true, digIs_iff x (c % 16) (by omega) (by omega), ih (c / 16) (by omega), List.reverse_cons, hexVal_snoc]
    constructor
    · rintro ⟨h1, h2⟩
      rw [h1, h2]
      simp
      omega
    · intro h
      cases hv : hexVal r.reverse 0 with
      | none => rw [hv] at h; cases h
      | some y =>
        cases hd : hexDig x with
        | none => rw [hv, hd] at h; cases h
        | some v =>
          rw [hv, hd] at h
          simp at h
          have h1 := hexDig_range hd
          have h2 := hexVal_nonneg _ _ _ (Int.le_refl 0) hv
          have e1 : c % 16 = v := by omega
          have e2 : c / 16 = y := by omega
          rw [e1, e2]
          exact ⟨rfl, rfl⟩

/-- The digits d, read from the last: does d write c? -/
def spells (d : List Int) (c : Int) : Bool := spR d.reverse c
theorem spells_iff (d : List Int) (c : Int) (hc : 0 ≤ c) : spells d c = true ↔ hexVal d 0 = some c := by
  unfold spells
  rw [spR_iff _ c hc, List.reverse_reverse]

theorem hexN_hit (n : Nat) (r : List Int) (c : Int) (hl : n ≤ r.length) (h1 : 32 ≤ c) (h2 : c ≤ 126) (h : spells (r.take n) c = true) : hexN n r = (c, (n : Int) + 1) := by
  unfold hexN
  rw [if_neg (by omega), (spells_iff _ c (by omega)).1 h]
  simp [h1, h2]
theorem hexN_miss (n : Nat) (r : List Int) (h : ∀ c : Int, 32 ≤ c → c ≤ 126 → spells (r.take n) c = false) : hexN n r = (0, 0) := by
  unfold hexN
  by_cases hl : r.length < n
  · rw [if_pos hl]
  · rw [if_neg hl]
    cases hv : hexVal (r.take n) 0 with
    | none => rfl
    | some code =>
      by_cases hc : 32 ≤ code ∧ code ≤ 126
      · have h3 := h code hc.1 hc.2
        rw [(spells_iff _ code (by omega)).2 hv] at h3
        cases h3
      · simp [hc]
end Go.Proofs.Qxb6603725a
