/-
  PLAIN LAWS: the frame 'Kept'; sums; a slice of pairs (a string, a slice) that is read. No program in sight.
-/
import Derived.WalkKit
import Derived.WalkSmall
import Derived.OpenShut
namespace Go.Proofs.Qxb6603824a
open Go.RowKit

/-- THE FRAME: of the blocks of w only those in S may have turned. -/
structure Kept (S : Nat → Prop) (w w' : World) : Prop where
  os : w'.os = w.os
  tape : w'.tape = w.tape
  output : w'.output = w.output
  size : w.heap.size ≤ w'.heap.size
  block : ∀ k, k < w.heap.size → ¬ S k → w'.heap[k]? = w.heap[k]?

/-- Nothing that was there has turned. -/
def Old (w w' : World) : Prop := Kept (fun _ => False) w w'

theorem Kept.refl (S : Nat → Prop) (w : World) : Kept S w w := ⟨rfl, rfl, rfl, Nat.le_refl _, fun _ _ _ => rfl⟩
theorem Kept.trans {S S' T : Nat → Prop} {a b c : World} (h : Kept S a b) (k : Kept S' b c) (hs : ∀ k, k < a.heap.size → S k → T k) (hs' : ∀ k, k < a.heap.size → S' k → T k) : Kept T a c :=
  ⟨k.os.trans h.os, k.tape.trans h.tape, k.output.trans h.output, Nat.le_trans h.size k.size, fun i hi hn =>
    (k.block i (Nat.lt_of_lt_of_le hi h.size) (fun x => hn (hs' i hi x))).trans (h.block i hi (fun x => hn (hs i hi x)))⟩
theorem Kept.alloc (w : World) (o : Obj) (S : Nat → Prop) : Kept S w (w.alloc o) := ⟨rfl, rfl, rfl, by simp, fun k hk _ => Below.heap_alloc _ _ _ hk⟩
theorem Kept.drew (w : World) (S : Nat → Prop) : Kept S w w.drew := ⟨rfl, rfl, rfl, Nat.le_refl _, fun _ _ _ => rfl⟩
theorem Kept.drewN (w : World) (n : Nat) (S : Nat → Prop) : Kept S w (w.drewN n) := ⟨rfl, rfl, rfl, Nat.le_refl _, fun _ _ _ => rfl⟩
theorem Kept.setCell (w : World) (a : Addr) (u : Value) : Kept (· = a.block) w (w.setCell a u) := ⟨rfl, rfl, rfl, by simp [World.setCell], fun k _ hk => Below.heap_setCell _ _ _ _ hk⟩
theorem Kept.grown {w w' : World} {row : Option Nat} (h : w.grownBy w' row) : Kept (fun k => some k = row) w w' := ⟨h.os, h.tape, h.output, h.size, fun k hk hn => h.block k hk hn⟩
theorem Kept.cell {S : Nat → Prop} {w w' : World} (h : Kept S w w') {p : Addr} (hp : p.block < w.heap.size) (hn : ¬ S p.block) : w'.cell? p = w.cell? p := World.cell?_of_block (w := w) (h.block p.block hp hn)

theorem Old.refl (w : World) : Old w w := Kept.refl _ w
theorem Old.trans {a b c : World} (h : Old a b) (k : Old b c) : Old a c := Kept.trans h k (fun _ _ h => h) (fun _ _ h => h)
theorem Old.alloc (w : World) (o : Obj) : Old w (w.alloc o) := Kept.alloc w o _
theorem Old.drew (w : World) : Old w w.drew := Kept.drew w _
theorem Old.drewN (w : World) (n : Nat) : Old w (w.drewN n) := Kept.drewN w n _
theorem Old.below {w w' : World} (h : Old w w') : Below w.heap.size w w' := ⟨h.os, h.tape, h.output, h.size, fun k hk => h.block k hk (fun h => h)⟩
theorem Old.cell {w w' : World} (h : Old w w') {p : Addr} (hp : p.block < w.heap.size) : w'.cell? p = w.cell? p := Kept.cell h hp (fun h => h)
/-- A store into a block that is new since w. -/
theorem Old.setCell {w w1 : World} (h : Old w w1) {a : Addr} (ha : w.heap.size ≤ a.block) (u : Value) : Old w (w1.setCell a u) :=
  Kept.trans h (Kept.setCell w1 a u) (fun _ _ h => h) (fun k hk e => by omega)
/-- A make. -/
theorem Old.made {w w1 w2 : World} (h : Old w w1) (hg : w1.grownBy w2 none) : Old w w2 := Kept.trans h (Kept.grown hg) (fun _ _ h => h) (fun _ _ e => by cases e)

/-! ### Sums -/
def S (f : Nat → Nat) : Nat → Nat
  | 0 => 0
  | k + 1 => S f k + f k
theorem S_mono (f : Nat → Nat) {k n : Nat} (h : k ≤ n) : S f k ≤ S f n := by
  induction n with
  | zero => obtain rfl : k = 0 := by omega
            exact Nat.le_refl _
  | succ n ih =>
    by_cases hk : k = n + 1
    · rw [hk]; exact Nat.le_refl _
    · have := ih (by omega)
      show S f k ≤ S f n + f n
      omega
theorem S_elem (f : Nat → Nat) {k n : Nat} (h : k < n) : S f k + f k ≤ S f n := S_mono f (k := k + 1) h
theorem S_add (f g : Nat → Nat) (n : Nat) : S (fun i => f i + g i) n = S f n + S g n := by
  induction n with
  | zero => rfl
  | succ n ih => simp only [S, ih]; omega
theorem S_const (c n : Nat) : S (fun _ => c) n = c * n := by
  induction n with
  | zero => rfl
  | succ n ih => simp only [S, ih, Nat.mul_succ]
theorem S_congr {f g : Nat → Nat} {n : Nat} (h : ∀ i, i < n → f i = g i) : S f n = S g n := by
  induction n with
  | zero => rfl
  | succ n ih => simp only [S]; rw [ih (fun i hi => h i (by omega)), h n (by omega)]
theorem S_shift (f : Nat → Nat) (n : Nat) : S f (n + 1) = f 0 + S (fun i => f (i + 1)) n := by
  induction n with
  | zero => simp [S]
  | succ n ih =>
    show S f (n + 1) + f (n + 1) = f 0 + (S (fun i => f (i + 1)) n + f (n + 1))
    rw [ih]; omega
/-- THE ORDER DOES NOT MATTER: backwards the sum is the same. -/
theorem S_rev (f : Nat → Nat) (n : Nat) : S (fun i => f (n - 1 - i)) n = S f n := by
  induction n generalizing f with
  | zero => rfl
  | succ n ih =>
    rw [S_shift f n, ← ih (fun i => f (i + 1))]
    show S (fun i => f (n + 1 - 1 - i)) n + f (n + 1 - 1 - n) = _
    rw [show n + 1 - 1 - n = 0 by omega, S_congr (g := fun i => f (n - 1 - i + 1)) (fun i hi => by congr 1; omega)]
    omega

/-! ### A slice of pairs that is read -/
/-- An argument: its address whatever; each signature's bytes are there. -/
def SIn (w : World) (v : Value) (n : Nat) (il sl : Nat → Nat) : Prop :=
  (v = .slice none 0 0 ∧ n = 0) ∨
  ∃ x c, v = .slice (some x) n c ∧ ∀ i, i < n → ∃ s a d, w.cell? (x.add (i * 2)) = some (.string s) ∧ s.size = il i ∧ w.cell? (x.add (i * 2 + 1)) = some (.slice a (sl i) d) ∧ il i ≤ maxLen ∧ sl i ≤ maxLen ∧
    ((a = none ∧ sl i = 0) ∨ ∃ y, a = some y ∧ ∀ j, j < sl i → ∃ z, w.cell? (y.add j) = some (.int .u8 z))
/-- What is made: the lengths alone. -/
def SRd (w : World) (v : Value) (n : Nat) (il sl : Nat → Nat) : Prop :=
  (v = .slice none 0 0 ∧ n = 0) ∨
  ∃ g c, v = .slice (some ⟨g, 0, none⟩) n c ∧ g < w.heap.size ∧ ∀ i, i < n → ∃ s a d, w.cell? ⟨g, i * 2, none⟩ = some (.string s) ∧ s.size = il i ∧ w.cell? ⟨g, i * 2 + 1, none⟩ = some (.slice a (sl i) d)
theorem SRd.old {w w' : World} {v : Value} {n : Nat} {il sl : Nat → Nat} (h : SRd w v n il sl) (hk : Old w w') : SRd w' v n il sl := by
  rcases h with h | ⟨g, c, rfl, hg, hc⟩
  · exact .inl h
  · refine .inr ⟨g, c, rfl, Nat.lt_of_lt_of_le hg hk.size, fun i hi => ?_⟩
    obtain ⟨s, a, d, h1, h2, h3⟩ := hc i hi
    exact ⟨s, a, d, by rw [hk.cell (p := ⟨g, i * 2, none⟩) hg]; exact h1, h2, by rw [hk.cell (p := ⟨g, i * 2 + 1, none⟩) hg]; exact h3⟩
theorem SIn.form {w : World} {v : Value} {n : Nat} {il sl : Nat → Nat} (h : SIn w v n il sl) : ∃ a c, v = .slice a n c := by
  rcases h with ⟨rfl, rfl⟩ | ⟨x, c, rfl, _⟩
  · exact ⟨_, _, rfl⟩
  · exact ⟨_, _, rfl⟩
theorem SRd.form {w : World} {v : Value} {n : Nat} {il sl : Nat → Nat} (h : SRd w v n il sl) : ∃ a c, v = .slice a n c := by
  rcases h with ⟨rfl, rfl⟩ | ⟨g, c, rfl, _⟩
  · exact ⟨_, _, rfl⟩
  · exact ⟨_, _, rfl⟩

theorem addr_plain {w : World} {x : Addr} {v : Value} (h : w.cell? (x.add 0) = some v) : ∃ b o, x = ⟨b, o, none⟩ := by
  obtain ⟨b, o, spot⟩ := x
  have hspot : spot = none := by simpa [Addr.add] using World.cell?_spot h
  subst hspot
  exact ⟨b, o, rfl⟩
theorem add_plain' (b o i : Nat) : (⟨b, o, none⟩ : Addr).add i = ⟨b, o + i, none⟩ := Addr.add_lit ..
end Go.Proofs.Qxb6603824a
