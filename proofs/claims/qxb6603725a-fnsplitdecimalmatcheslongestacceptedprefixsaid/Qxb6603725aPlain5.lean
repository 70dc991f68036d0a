/-
  THE PLAIN FUNCTIONS AND THEIR LAWS, 5: what the automaton finds, by the places of the split.
-/
import Derived.Test.Qxb6603725aWalkD
namespace Go.Proofs.Qxb6603725a

/-- Behind the whole digits. -/
def at0 (l : List Int) : Nat := dEnd l 0
/-- Does a point follow? -/
def hasPt (l : List Int) : Bool := decide (l[at0 l]? = some 46)
/-- Behind the fraction. -/
def at1 (l : List Int) : Nat := if hasPt l then dEnd l (at0 l + 1) else at0 l

theorem at0_digs (l : List Int) : at0 l = digs l := by simp [at0, dEnd]
theorem at0_le (l : List Int) : at0 l ≤ l.length := dEnd_le l 0 (Nat.zero_le _)
theorem hasPt_lt {l : List Int} (h : hasPt l = true) : at0 l < l.length := by
  simp [hasPt] at h
  exact (List.getElem?_eq_some_iff.1 h).1
theorem at1_pt {l : List Int} (h : hasPt l = true) : at1 l = dEnd l (at0 l + 1) := by simp [at1, h]
theorem at1_no {l : List Int} (h : hasPt l = false) : at1 l = at0 l := by simp [at1, h]
theorem at1_le (l : List Int) : at1 l ≤ l.length := by
  cases h : hasPt l with
  | true => rw [at1_pt h]; exact dEnd_le l _ (hasPt_lt h)
  | false => rw [at1_no h]; exact at0_le l
theorem at1_ge (l : List Int) : at0 l ≤ at1 l := by
  cases h : hasPt l with
  | true => rw [at1_pt h]; have := dEnd_ge l (at0 l + 1); omega
  | false => rw [at1_no h]; exact Nat.le_refl _
theorem at1_nodigit (l : List Int) (c : Int) (h : l[at1 l]? = some c) : isD c = false := by
  have key : ∀ k, l[dEnd l k]? = some c → isD c = false := fun k hk => by
    unfold dEnd at hk
    exact digs_stop (l.drop k) c (by rw [List.getElem?_drop]; exact hk)
  cases hp : hasPt l with
  | true => rw [at1_pt hp] at h; exact key _ h
  | false => rw [at1_no hp] at h; exact key 0 h
theorem at1_nopoint (l : List Int) (c : Int) (hp : hasPt l = false) (h : l[at1 l]? = some c) : c ≠ 46 := by
  rw [at1_no hp] at h
  rintro rfl
  simp [hasPt, h] at hp

/-- What the automaton finds. -/
def found (l : List Int) : Nat × Int :=
  if at0 l = 0 then (0, 0) else match expo (l.drop (at1 l)) with
    | some (m + 1) => (at1 l + (m + 1), 5)
    | _ => (at1 l, if hasPt l then 2 else 1)

/-- A state that accepts: by the places. -/
theorem run_found (l : List Int) : run l 0 0 0 0 = found l := by
  unfold found
  by_cases h0 : at0 l = 0
  · rw [if_pos h0]
    cases l with
    | nil => rfl
    | cons c r =>
      have hd : isD c = false := by
        rw [at0_digs] at h0
        simp only [digs] at h0
        split at h0
        · omega
        · rename_i h; simpa using h
      unfold run
      rw [if_neg (by omega), show stp 0 c = -1 by simp [stp, hd], if_neg (by simp [acc]), run_dead]
  · rw [if_neg h0]
    -- the whole digits
    have e1 : run l 0 0 0 0 = run (l.drop (at0 l)) (at0 l) 1 (at0 l) 1 := by
      cases l with
      | nil => simp [at0, dEnd, digs] at h0
      | cons c r =>
        have hd : isD c = true := by
          rw [at0_digs] at h0
          simp only [digs] at h0
          split at h0
          · assumption
          · omega
        have hdg : at0 (c :: r) = digs r + 1 := by rw [at0_digs]; simp [digs, hd]
        rw [hdg]
        conv => lhs; unfold run
        rw [if_neg (by omega), show stp 0 c = 1 by simp [stp, hd], if_pos (by simp [acc]), run_same 1 (by simp) r 1, List.drop_succ_cons, Nat.add_comm 1]
    rw [e1]
    cases hp : hasPt l with
    | false =>
      have hnp := at1_nopoint l
      rw [at1_no hp]
      rw [run_tail 1 (by simp) (l.drop (at0 l)) (at0 l) (fun c hc => by
            rw [List.getElem?_drop, Nat.add_zero] at hc
            exact at1_nodigit l c (by rw [at1_no hp]; exact hc))
          (fun c hc _ => by
            rw [List.getElem?_drop, Nat.add_zero] at hc
            exact hnp c hp (by rw [at1_no hp]; exact hc))]
      cases expo (l.drop (at0 l)) with
      | none => simp
      | some m => cases m <;> simp
    | true =>
      have hlt := hasPt_lt hp
      have hc : l[at0 l]? = some 46 := by simpa [hasPt] using hp
      have hdrop : l.drop (at0 l) = 46 :: l.drop (at0 l + 1) := by
        obtain ⟨hk, hx⟩ := List.getElem?_eq_some_iff.1 hc
        rw [List.drop_eq_getElem_cons hk, hx]
      rw [hdrop]
      conv => lhs; unfold run
      rw [if_neg (by omega), show stp 1 46 = 2 by decide, if_pos (by simp [acc]), run_same 2 (by simp) (l.drop (at0 l + 1)) (at0 l + 1), List.drop_drop]
      have e2 : at0 l + 1 + digs (l.drop (at0 l + 1)) = at1 l := by rw [at1_pt hp]; rfl
      rw [e2]
      rw [run_tail 2 (by simp) (l.drop (at1 l)) (at1 l) (fun c hc => by
            rw [List.getElem?_drop, Nat.add_zero] at hc
            exact at1_nodigit l c hc) (fun _ _ h => by omega)]
      cases expo (l.drop (at1 l)) with
      | none => simp
      | some m => cases m <;> simp
end Go.Proofs.Qxb6603725a
