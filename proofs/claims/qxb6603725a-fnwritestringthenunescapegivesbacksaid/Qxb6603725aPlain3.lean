/-
  THE PLAIN FUNCTIONS AND THEIR LAWS, 3: reading back what was spelt. No Go in sight.
-/
import Derived.Test.Qxb6603725aPlain2
namespace Go.Proofs.Qxb6603725a

/-- Every escape is read back. -/
theorem unesc_back {c : Int} {e : List Int} (h : esc c = some e) (r : List Int) : ∃ t, e = 92 :: t ∧ unesc (t ++ r) = (c, (t.length : Int)) ∧ 1 ≤ t.length ∧ 0 ≤ c ∧ c ≤ 255 := by
  rcases esc_ways c with ⟨rfl, he⟩ | ⟨rfl, he⟩ | ⟨rfl, he⟩ | ⟨rfl, he⟩ | ⟨rfl, he⟩ | ⟨rfl, he⟩ | ⟨rfl, he⟩ | ⟨rfl, he⟩ | ⟨h1, h2, h3, h4, h5, h6, h7, h8, he⟩
  all_goals
    rw [he] at h
    cases h
  all_goals refine ⟨_, rfl, ?_, by simp, by omega, by omega⟩
  all_goals simp [unesc, hexN, hexVal, hexDig]

theorem enc_drop (s : List Int) (k : Nat) : (enc s).drop (enc (s.take k)).length = enc (s.drop k) := by
  have h : enc s = enc (s.take k) ++ enc (s.drop k) := by rw [← enc_append, List.take_append_drop]
  rw [h, List.drop_left]
theorem enc_len (s : List Int) (k : Nat) : (enc (s.take k)).length + (enc (s.drop k)).length = (enc s).length := by
  rw [← List.length_append, ← enc_append, List.take_append_drop]
theorem drop_step {s : List Int} {k : Nat} {c : Int} (h : s[k]? = some c) : s.drop k = c :: s.drop (k + 1) := by
  obtain ⟨hk, hx⟩ := List.getElem?_eq_some_iff.1 h
  rw [List.drop_eq_getElem_cons hk, hx]

/-- A byte that stands for itself: what lies at its place. -/
theorem back_plain {s : List Int} {k : Nat} {c : Int} (h : s[k]? = some c) (he : esc c = none) :
    (enc s)[(enc (s.take k)).length]? = some c ∧ c ≠ 34 ∧ c ≠ 92 ∧ (enc (s.take (k + 1))).length = (enc (s.take k)).length + 1 ∧ (enc (s.take k)).length + 1 ≤ (enc s).length := by
  have h1 := enc_drop s k
  rw [drop_step h, enc_cons, show encB c = [c] by simp [encB, he]] at h1
  have h2 : (enc s)[(enc (s.take k)).length]? = some c := by
    have := congrArg (fun l => l[0]?) h1
    simpa using this
  refine ⟨h2, ?_, ?_, ?_, ?_⟩
  · rintro rfl; simp [esc] at he
  · rintro rfl; simp [esc] at he
  · rw [enc_take_succ h]; simp [encB, he]
  · have := (List.getElem?_eq_some_iff.1 h2).1; omega

/-- A byte that is escaped: what lies at its place, and what unescape answers behind the backslash. -/
theorem back_esc {s : List Int} {k : Nat} {c : Int} {e : List Int} (h : s[k]? = some c) (he : esc c = some e) :
    (enc s)[(enc (s.take k)).length]? = some 92 ∧ ∃ m : Nat, 1 ≤ m ∧ unesc ((enc s).drop ((enc (s.take k)).length + 1)) = (c, (m : Int)) ∧ (enc (s.take (k + 1))).length = (enc (s.take k)).length + 1 + m ∧
      (enc (s.take (k + 1))).length ≤ (enc s).length ∧ 0 ≤ c ∧ c ≤ 255 := by
  obtain ⟨t, rfl, hu, ht, hc0, hc1⟩ := unesc_back he (enc (s.drop (k + 1)))
  have h1 := enc_drop s k
  rw [drop_step h, enc_cons, show encB c = 92 :: t by simp [encB, he]] at h1
  have h2 : (enc s)[(enc (s.take k)).length]? = some 92 := by
    have := congrArg (fun l => l[0]?) h1
    simpa using this
  have h3 : (enc s).drop ((enc (s.take k)).length + 1) = t ++ enc (s.drop (k + 1)) := by
    rw [← List.drop_drop, h1]
    rfl
  refine ⟨h2, t.length, ht, by rw [h3, hu], ?_, by have := enc_len s (k + 1); omega, hc0, hc1⟩
  rw [enc_take_succ h]
  simp [encB, he]
  omega

theorem enc_byt {l : List Int} (h : ∀ n ∈ l, 0 ≤ n ∧ n ≤ 255) : ∀ n ∈ enc l, 0 ≤ n ∧ n ≤ 255 := by
  intro n hn
  obtain ⟨c, hc, hn⟩ := List.mem_flatMap.1 hn
  have hb := h c hc
  unfold encB at hn
  rcases esc_ways c with ⟨_, he⟩ | ⟨_, he⟩ | ⟨_, he⟩ | ⟨_, he⟩ | ⟨_, he⟩ | ⟨_, he⟩ | ⟨_, he⟩ | ⟨_, he⟩ | ⟨h1, h2, h3, h4, h5, h6, h7, h8, he⟩
  all_goals
    rw [he] at hn
    simp at hn
    omega
theorem enc_full {s : List Int} {k : Nat} (h : k = s.length) : (enc (s.take k)).length = (enc s).length := by rw [h, List.take_of_length_le (Nat.le_refl _)]
theorem quote_len (s : List Int) : (quote s).length = (enc s).length + 2 := by simp [quote]
theorem quote_inner (s : List Int) : ((quote s).take ((enc s).length + 1)).drop 1 = enc s := by
  unfold quote
  rw [List.take_succ_cons, List.drop_one, List.tail_cons, List.take_left]
theorem quote_first (s : List Int) : (quote s).getD 0 0 = 34 := rfl
theorem quote_last (s : List Int) : (quote s).getD ((enc s).length + 1) 0 = 34 := by
  simp [quote]
end Go.Proofs.Qxb6603725a
