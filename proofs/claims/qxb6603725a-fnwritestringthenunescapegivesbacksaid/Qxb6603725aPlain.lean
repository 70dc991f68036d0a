/-
  THE PLAIN FUNCTIONS AND THEIR LAWS, 1: how writeString spells a list of bytes. No Go in sight.
-/
namespace Go.Proofs.Qxb6603725a

/-- The escape of a byte, where it has one. -/
def esc (c : Int) : Option (List Int) :=
  if c = 34 then some [92, 34] else if c = 92 then some [92, 92] else if c = 10 then some [92, 110] else if c = 13 then some [92, 114] else if c = 9 then some [92, 116]
  else if c = 60 then some [92, 117, 48, 48, 51, 99] else if c = 62 then some [92, 117, 48, 48, 51, 101] else if c = 38 then some [92, 117, 48, 48, 50, 54] else none

/-- The nine ways of a byte. -/
theorem esc_ways (c : Int) : (c = 34 ∧ esc c = some [92, 34]) ∨ (c = 92 ∧ esc c = some [92, 92]) ∨ (c = 10 ∧ esc c = some [92, 110]) ∨ (c = 13 ∧ esc c = some [92, 114]) ∨ (c = 9 ∧ esc c = some [92, 116]) ∨
    (c = 60 ∧ esc c = some [92, 117, 48, 48, 51, 99]) ∨ (c = 62 ∧ esc c = some [92, 117, 48, 48, 51, 101]) ∨ (c = 38 ∧ esc c = some [92, 117, 48, 48, 50, 54]) ∨
    (c ≠ 34 ∧ c ≠ 92 ∧ c ≠ 10 ∧ c ≠ 13 ∧ c ≠ 9 ∧ c ≠ 60 ∧ c ≠ 62 ∧ c ≠ 38 ∧ esc c = none) := by
  unfold esc
  by_cases h1 : c = 34
  · simp [h1]
  by_cases h2 : c = 92
  · simp [h2]
  by_cases h3 : c = 10
  · simp [h3]
  by_cases h4 : c = 13
  · simp [h4]
  by_cases h5 : c = 9
  · simp [h5]
  by_cases h6 : c = 60
  · simp [h6]
  by_cases h7 : c = 62
  · simp [h7]
  by_cases h8 : c = 38
  · simp [h8]
  simp [h1, h2, h3, h4, h5, h6, h7, h8]

def encB (c : Int) : List Int := (esc c).getD [c]
def enc (l : List Int) : List Int := l.flatMap encB
def quote (l : List Int) : List Int := 34 :: (enc l ++ [34])

theorem enc_append (a b : List Int) : enc (a ++ b) = enc a ++ enc b := by simp [enc]
theorem enc_cons (c : Int) (l : List Int) : enc (c :: l) = encB c ++ enc l := by simp [enc]
theorem enc_nil : enc [] = [] := rfl
theorem encB_length (c : Int) : (encB c).length ≤ 6 := by
  unfold encB
  rcases esc_ways c with ⟨_, h⟩ | ⟨_, h⟩ | ⟨_, h⟩ | ⟨_, h⟩ | ⟨_, h⟩ | ⟨_, h⟩ | ⟨_, h⟩ | ⟨_, h⟩ | ⟨_, _, _, _, _, _, _, _, h⟩ <;> rw [h] <;> simp
theorem enc_length (l : List Int) : (enc l).length ≤ 6 * l.length := by
  induction l with
  | nil => simp [enc]
  | cons c l ih => rw [enc_cons, List.length_append, List.length_cons]; have := encB_length c; omega
theorem quote_length (l : List Int) : (quote l).length ≤ 6 * l.length + 2 := by
  have := enc_length l
  simp [quote]; omega
theorem enc_take_succ {l : List Int} {k : Nat} {c : Int} (h : l[k]? = some c) : enc (l.take (k + 1)) = enc (l.take k) ++ encB c := by
  rw [List.take_add_one, h, enc_append]
  simp [enc]

/-- THE LAW OF THE CUT: a joined string is the first without its closing quote, then the second without its opening one. -/
theorem quote_split (a b : List Int) : quote (a ++ b) = (quote a).take ((quote a).length - 1) ++ (quote b).drop 1 := by
  have h : (quote a).take ((quote a).length - 1) = 34 :: enc a := by
    unfold quote
    rw [show (34 :: (enc a ++ [34])) = (34 :: enc a) ++ [34] from rfl]
    rw [List.length_append]
    exact List.take_left
  rw [h]
  simp [quote, enc_append]

theorem take_take_drop (l : List Int) (f k : Nat) (c : Int) (hf : f ≤ k) (h : l[k]? = some c) : (l.take (k + 1)).drop f = (l.take k).drop f ++ [c] := by
  have hk : k < l.length := (List.getElem?_eq_some_iff.1 h).1
  rw [List.take_add_one, h, List.drop_append_of_le_length (by simp; omega)]
  rfl
end Go.Proofs.Qxb6603725a
