/-
  THE PLAIN FUNCTIONS AND THEIR LAWS, 4: decimals: the automaton, the split. No Go in sight.
-/
namespace Go.Proofs.Qxb6603725a

def isD (c : Int) : Bool := decide (48 ≤ c ∧ c ≤ 57)
/-- How many digits stand ahead. -/
def digs : List Int → Nat
  | [] => 0
  | c :: r => if isD c then digs r + 1 else 0
def isE (c : Int) : Bool := decide (c = 101 ∨ c = 69)
def isS (c : Int) : Bool := decide (c = 43 ∨ c = 45)

/-- The automaton's step. -/
def stp (st c : Int) : Int :=
  if st = 0 then (if isD c then 1 else -1)
  else if st = 1 then (if isD c then 1 else if c = 46 then 2 else if isE c then 3 else -1)
  else if st = 2 then (if isD c then 2 else if isE c then 3 else -1)
  else if st = 3 then (if isD c then 5 else if isS c then 4 else -1)
  else if st = 4 then (if isD c then 5 else -1)
  else if st = 5 then (if isD c then 5 else -1)
  else -1
def acc (st : Int) : Bool := decide (st = 1 ∨ st = 2 ∨ st = 5)

/-- The run: how far the longest accepted beginning reaches, and the state there. -/
def run : List Int → Nat → Int → Nat → Int → Nat × Int
  | [], _, _, p, sp => (p, sp)
  | c :: r, k, st, p, sp => if st < 0 then (p, sp) else if acc (stp st c) then run r (k + 1) (stp st c) (k + 1) (stp st c) else run r (k + 1) (stp st c) p sp

theorem run_dead (r : List Int) (k : Nat) (p : Nat) (sp : Int) : run r k (-1) p sp = (p, sp) := by
  cases r with
  | nil => rfl
  | cons c r => simp [run]

theorem digs_le (l : List Int) : digs l ≤ l.length := by
  induction l with
  | nil => simp [digs]
  | cons c r ih => unfold digs; split <;> simp; omega
theorem digs_all (l : List Int) : ∀ x ∈ l.take (digs l), isD x = true := by
  induction l with
  | nil => simp [digs]
  | cons c r ih =>
    unfold digs
    split
    · rename_i h
      intro x hx
      rw [List.take_succ_cons] at hx
      rcases List.mem_cons.1 hx with rfl | hx
      · exact h
      · exact ih x hx
    · simp
theorem digs_stop (l : List Int) (c : Int) (h : l[digs l]? = some c) : isD c = false := by
  induction l with
  | nil => simp at h
  | cons x r ih =>
    unfold digs at h
    split at h
    · rw [List.getElem?_cons_succ] at h; exact ih h
    · rename_i hx
      simp at h
      rw [← h]
      simpa using hx

/-- A state that digits keep, and that accepts. -/
theorem run_same (st : Int) (hst : st = 1 ∨ st = 2 ∨ st = 5) (r : List Int) (k : Nat) : run r k st k st = run (r.drop (digs r)) (k + digs r) st (k + digs r) st := by
  induction r generalizing k with
  | nil => simp [digs, run]
  | cons c r ih =>
    by_cases h : isD c = true
    · have h1 : stp st c = st := by
        rcases hst with rfl | rfl | rfl <;> simp [stp, h]
      have h2 : acc st = true := by
        rcases hst with rfl | rfl | rfl <;> simp [acc]
      have h3 : ¬ st < 0 := by omega
      have h4 : digs (c :: r) = digs r + 1 := by simp [digs, h]
      rw [h4, List.drop_succ_cons]
      conv => lhs; unfold run
      rw [if_neg h3, h1, if_pos h2, ih (k + 1)]
      congr 1 <;> omega
    · have h4 : digs (c :: r) = 0 := by simp [digs, h]
      rw [h4]
      simp

/-- Behind an e: how many bytes of an exponent stand ahead, the e counted; nought where it is broken off. -/
def expoR : List Int → Nat
  | [] => 0
  | s :: t => if isS s then (if digs t = 0 then 0 else 2 + digs t) else (if digs (s :: t) = 0 then 0 else 1 + digs (s :: t))
/-- The exponent that stands ahead: none; one that is broken off (nought); one of m bytes, its e and its sign counted. -/
def expo : List Int → Option Nat
  | [] => none
  | c :: r => if isE c then some (expoR r) else none

/-- Behind the digits in state 1 or 2. -/
theorem run_tail (st : Int) (hst : st = 1 ∨ st = 2) (r : List Int) (k : Nat) (h0 : ∀ c, r[0]? = some c → isD c = false) (h1 : ∀ c, r[0]? = some c → st = 1 → c ≠ 46) :
    run r k st k st = match expo r with
      | none => (k, st)
      | some 0 => (k, st)
      | some (m + 1) => (k + (m + 1), 5) := by
  cases r with
  | nil => rfl
  | cons c r =>
    have hd := h0 c rfl
    have hp := h1 c rfl
    have h3 : ¬ st < 0 := by omega
    simp only [expo]
    unfold run
    rw [if_neg h3]
    by_cases he : isE c = true
    · have hs : stp st c = 3 := by
        rcases hst with rfl | rfl
        · have := hp rfl; simp [stp, hd, he, this]
        · simp [stp, hd, he]
      rw [hs, if_neg (by simp [acc]), if_pos he]
      cases r with
      | nil => rfl
      | cons s t =>
        simp only [expoR]
        unfold run
        rw [if_neg (by omega)]
        by_cases hd2 : isD s = true
        · have hs2 : stp 3 s = 5 := by simp [stp, hd2]
          have hns : isS s = false := by
            simp [isD, isS] at hd2 ⊢; omega
          rw [hs2, if_pos (by simp [acc]), if_neg (by simp [hns]), run_same 5 (by simp) t]
          have hdg : digs (s :: t) = digs t + 1 := by simp [digs, hd2]
          rw [hdg, if_neg (by omega)]
          have hfin : run (t.drop (digs t)) (k + 1 + 1 + digs t) 5 (k + 1 + 1 + digs t) 5 = (k + 1 + 1 + digs t, 5) := by
            cases hr : t.drop (digs t) with
            | nil => rfl
            | cons x y =>
              have hx : isD x = false := digs_stop t x (by rw [← List.head?_drop, hr]; rfl)
              unfold run
              rw [if_neg (by omega), show stp 5 x = -1 by simp [stp, hx], if_neg (by simp [acc]), run_dead]
          rw [hfin, show 1 + (digs t + 1) = (digs t + 1) + 1 by omega]
          simp only [Prod.mk.injEq, and_true]
          omega
        · by_cases hsg : isS s = true
          · have hs2 : stp 3 s = 4 := by simp [stp, hd2, hsg]
            rw [hs2, if_neg (by simp [acc]), if_pos hsg]
            cases t with
            | nil => simp [run, digs]
            | cons x y =>
              unfold run
              rw [if_neg (by omega)]
              by_cases hd3 : isD x = true
              · have hs3 : stp 4 x = 5 := by simp [stp, hd3]
                have hdg : digs (x :: y) = digs y + 1 := by simp [digs, hd3]
                rw [hs3, if_pos (by simp [acc]), run_same 5 (by simp) y, hdg, if_neg (by omega)]
                have hfin : run (y.drop (digs y)) (k + 1 + 1 + 1 + digs y) 5 (k + 1 + 1 + 1 + digs y) 5 = (k + 1 + 1 + 1 + digs y, 5) := by
                  cases hr : y.drop (digs y) with
                  | nil => rfl
                  | cons x' y' =>
                    have hx : isD x' = false := digs_stop y x' (by rw [← List.head?_drop, hr]; rfl)
                    unfold run
                    rw [if_neg (by omega), show stp 5 x' = -1 by simp [stp, hx], if_neg (by simp [acc]), run_dead]
                rw [hfin, show 2 + (digs y + 1) = (digs y + 2) + 1 by omega]
                simp only [Prod.mk.injEq, and_true]
                omega
              · have hs3 : stp 4 x = -1 := by simp [stp, hd3]
                have hdg : digs (x :: y) = 0 := by simp [digs, hd3]
                rw [hs3, if_neg (by simp [acc]), run_dead, hdg, if_pos rfl]
          · have hs2 : stp 3 s = -1 := by simp [stp, hd2, hsg]
            have hdg : digs (s :: t) = 0 := by simp [digs, hd2]
            rw [hs2, if_neg (by simp [acc]), run_dead, if_neg hsg, hdg, if_pos rfl]
    · have hs : stp st c = -1 := by
        rcases hst with rfl | rfl
        · have := hp rfl; simp [stp, hd, he, this]
        · simp [stp, hd, he]
      rw [hs, if_neg (by simp [acc]), run_dead, if_neg he]
end Go.Proofs.Qxb6603725a
