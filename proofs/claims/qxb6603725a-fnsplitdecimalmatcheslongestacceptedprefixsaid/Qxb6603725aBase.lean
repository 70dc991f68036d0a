/-
  PLAIN LAWS ON MEMORY: no program in sight. 'Rd': a slice of bytes that is read; 'Own': a row of bytes that the call owns; 'Kept': the frame; 'run_append_bytes': append of whatever source onto an owned row.
-/
import Derived.WalkKit
import Derived.Deep.AppendSrc
import Derived.Deep.Upon
import Derived.Deep.RegionLaw
import Derived.WalkSmall
import Derived.OpenShut
namespace Go.Proofs.Qxb6603725a
open Go.RowKit

/-- the cells of a list of bytes -/
def cellsOf (l : List Int) : List Value := l.map (Value.int .u8)

/-- Each number is a byte. -/
def Byt (l : List Int) : Prop := ∀ n ∈ l, 0 ≤ n ∧ n ≤ 255

/-- THE SLICE VALUE v READS, in the world w, AS THE NUMBERS l. -/
def Rd (w : World) (v : Value) (l : List Int) : Prop :=
  (v = .slice none 0 0 ∧ l = []) ∨
  ∃ g o c, v = .slice (some ⟨g, o, none⟩) l.length c ∧ l.length ≤ c ∧ c ≤ maxLen ∧ g < w.heap.size ∧
    ∀ i, i < l.length → w.cell? ⟨g, o + i, none⟩ = some (.int .u8 (l.getD i 0))

theorem hid_get (l : List Int) (k : Nat) (h : k < l.length) : Hid (l[k]? = some (l.getD k 0)) := by
  show l[k]? = some (l.getD k 0)
  simp [h]
theorem take_step {la lb : List Int} {k : Nat} {u : Int} (he : la.take k = lb.take k) (ha : la[k]? = some u) (hb : lb[k]? = some u) : la.take (k + 1) = lb.take (k + 1) := by
  rw [List.take_add_one, List.take_add_one, he, ha, hb]
theorem dec_ne {la lb : List Int} {k : Nat} {u v : Int} (ha : la[k]? = some u) (hb : lb[k]? = some v) (h : u ≠ v) : decide (la = lb) = false := by
  simp only [decide_eq_false_iff_not]
  rintro rfl
  rw [ha] at hb
  exact h (Option.some.inj hb)
theorem dec_eq {la lb : List Int} {k : Nat} (he : la.take k = lb.take k) (ha : la.length = k) (hb : lb.length = k) : decide (la = lb) = true := by
  simp only [decide_eq_true_eq]
  rw [List.take_of_length_le (by omega), List.take_of_length_le (by omega)] at he
  exact he

/-- The same of an argument, its address whatever. -/
def In (w : World) (v : Value) (l : List Int) : Prop :=
  (v = .slice none 0 0 ∧ l = []) ∨
  ∃ x c, v = .slice (some x) l.length c ∧ ∀ i, i < l.length → w.cell? (x.add i) = some (.int .u8 (l.getD i 0))

/-- THE SLICE VALUE v IS A ROW OF ITS OWN BLOCK, not frozen, whose first cells are l. -/
def Own (w : World) (v : Value) (l : List Int) : Prop := w.ownsRow 0 5 1 v l.length (cellsOf l)

/-- THE FRAME: of the blocks of w only those in S may have turned. -/
structure Kept (S : Nat → Prop) (w w' : World) : Prop where
  os : w'.os = w.os
  tape : w'.tape = w.tape
  output : w'.output = w.output
  size : w.heap.size ≤ w'.heap.size
  block : ∀ k, k < w.heap.size → ¬ S k → w'.heap[k]? = w.heap[k]?

theorem Kept.refl (S : Nat → Prop) (w : World) : Kept S w w := ⟨rfl, rfl, rfl, Nat.le_refl _, fun _ _ _ => rfl⟩
theorem Kept.trans {S S' T : Nat → Prop} {a b c : World} (h : Kept S a b) (k : Kept S' b c) (hs : ∀ k, k < a.heap.size → S k → T k) (hs' : ∀ k, k < a.heap.size → S' k → T k) : Kept T a c :=
  ⟨k.os.trans h.os, k.tape.trans h.tape, k.output.trans h.output, Nat.le_trans h.size k.size, fun i hi hn =>
    (k.block i (Nat.lt_of_lt_of_le hi h.size) (fun x => hn (hs' i hi x))).trans (h.block i hi (fun x => hn (hs i hi x)))⟩
theorem Kept.mono {S T : Nat → Prop} {a b : World} (h : Kept S a b) (hs : ∀ k, k < a.heap.size → S k → T k) : Kept T a b :=
  ⟨h.os, h.tape, h.output, h.size, fun i hi hn => h.block i hi (fun x => hn (hs i hi x))⟩
theorem Kept.drew (w : World) (S : Nat → Prop) : Kept S w w.drew := ⟨rfl, rfl, rfl, Nat.le_refl _, fun _ _ _ => rfl⟩
theorem Kept.drewN (w : World) (n : Nat) (S : Nat → Prop) : Kept S w (w.drewN n) := ⟨rfl, rfl, rfl, Nat.le_refl _, fun _ _ _ => rfl⟩
theorem Kept.alloc (w : World) (o : Obj) (S : Nat → Prop) : Kept S w (w.alloc o) := ⟨rfl, rfl, rfl, by simp, fun k hk _ => Below.heap_alloc _ _ _ hk⟩
theorem Kept.setCell (w : World) (a : Addr) (u : Value) : Kept (· = a.block) w (w.setCell a u) := ⟨rfl, rfl, rfl, by simp [World.setCell], fun k _ hk => Below.heap_setCell _ _ _ _ hk⟩
theorem Kept.grown {w w' : World} {row : Option Nat} (h : w.grownBy w' row) : Kept (fun k => some k = row) w w' := ⟨h.os, h.tape, h.output, h.size, fun k hk hn => h.block k hk hn⟩
theorem Kept.below {S : Nat → Prop} {w w' : World} (h : Kept S w w') {B : Nat} (hB : B ≤ w.heap.size) (hs : ∀ k, k < B → ¬ S k) : Below B w w' :=
  ⟨h.os, h.tape, h.output, h.size, fun k hk => h.block k (by omega) (hs k hk)⟩
theorem Kept.ofBelow {w w' : World} {B : Nat} (h : Below B w w') : Kept (B ≤ ·) w w' := ⟨h.os, h.tape, h.output, h.size, fun k _ hk => h.block k (by omega)⟩
theorem Kept.cell {S : Nat → Prop} {w w' : World} (h : Kept S w w') {p : Addr} (hp : p.block < w.heap.size) (hn : ¬ S p.block) : w'.cell? p = w.cell? p := World.cell?_of_block (w := w) (h.block p.block hp hn)
theorem Kept.frozen {S : Nat → Prop} {w w' : World} (h : Kept S w w') {p : Addr} (hp : p.block < w.heap.size) (hn : ¬ S p.block) : w'.frozen? p = w.frozen? p := World.frozen?_of_block (w := w) (h.block p.block hp hn)

theorem length_cellsOf (l : List Int) : (cellsOf l).length = l.length := by simp [cellsOf]
theorem cellsOf_append (a b : List Int) : cellsOf (a ++ b) = cellsOf a ++ cellsOf b := by simp [cellsOf]
theorem cellsOf_getElem? (l : List Int) (j : Nat) (u : Value) (h : (cellsOf l)[j]? = some u) : j < l.length ∧ u = .int .u8 (l.getD j 0) := by
  obtain ⟨hj, rfl⟩ := List.getElem?_eq_some_iff.1 h
  have hj' : j < l.length := by simpa [cellsOf] using hj
  refine ⟨hj', ?_⟩
  simp [cellsOf, List.getD, hj']
theorem cellsOf_one (l : List Int) : ∀ u ∈ cellsOf l, u.oneCell' = true := ints_oneCell _ _

/-- The blocks in which a slice value lies. -/
theorem Rd.kept {S : Nat → Prop} {w w' : World} {v : Value} {l : List Int} (h : Rd w v l) (hk : Kept S w w') (hS : ∀ k, v.ownBlock = some k → ¬ S k) : Rd w' v l := by
  rcases h with h | ⟨g, o, c, rfl, h1, h2, h3, h4⟩
  · exact .inl h
  · refine .inr ⟨g, o, c, rfl, h1, h2, Nat.lt_of_lt_of_le h3 hk.size, fun i hi => ?_⟩
    rw [hk.cell (p := ⟨g, o + i, none⟩) h3 (hS g rfl)]
    exact h4 i hi
theorem Rd.lt {w : World} {v : Value} {l : List Int} (h : Rd w v l) : ∀ k, v.ownBlock = some k → k < w.heap.size := by
  rcases h with ⟨rfl, _⟩ | ⟨g, o, c, rfl, h1, h2, h3, h4⟩
  · intro k hk; cases hk
  · intro k hk; cases hk; exact h3
theorem Own.kept {S : Nat → Prop} {w w' : World} {v : Value} {l : List Int} (h : Own w v l) (hk : Kept S w w') (hS : ∀ k, v.ownBlock = some k → ¬ S k) : Own w' v l := by
  refine ⟨h.1, ?_⟩
  rcases h.2 with h2 | ⟨g, cap, cur, rfl, hg, hh, r⟩
  · exact .inl h2
  · exact .inr ⟨g, cap, cur, rfl, hg, by rw [hk.block g (lt_of_block hh) (hS g rfl)]; exact hh, r⟩
theorem Own.rd {w : World} {v : Value} {l : List Int} (h : Own w v l) : Rd w v l := by
  rcases h.2 with ⟨rfl, h2⟩ | ⟨g, cap, cur, rfl, hg, hh, h1, h2, h3, h4⟩
  · exact .inl ⟨rfl, List.eq_nil_of_length_eq_zero h2⟩
  · refine .inr ⟨g, 0, cap, rfl, h1, h2, lt_of_block hh, fun i hi => ?_⟩
    rw [cell_of_row w g (0 + i) cur 5 (0, 0) hh, Nat.zero_add]
    have e : (cellsOf l)[i]? = some (.int .u8 (l.getD i 0)) := by simp [cellsOf, List.getD, hi]
    rw [← h4, List.getElem?_take, if_pos (by omega)] at e
    simpa using e
theorem Own.lt {w : World} {v : Value} {l : List Int} (h : Own w v l) : ∀ k, v.ownBlock = some k → k < w.heap.size := h.rd.lt
theorem Own.nil (w : World) : Own w (.slice none 0 0) [] := ⟨by simp [cellsOf], .inl ⟨rfl, rfl⟩⟩
theorem Own.block {w : World} {v : Value} {l : List Int} (h : Own w v l) : ∀ k, v.ownBlock = some k → ∃ cur, w.heap[k]? = some (.cells cur 5 (0, 0)) := by
  rcases h.2 with ⟨rfl, h2⟩ | ⟨g, cap, cur, rfl, hg, hh, h1, h2, h3, h4⟩
  · intro k hk; cases hk
  · intro k hk; cases hk; exact ⟨cur, hh⟩

/-- What is read is a source for append. -/
theorem Rd.src {P : Program} {w : World} {v : Value} {l : List Int} (h : Rd w v l) {tx e' : TypeId} (hk : P.underlying tx = some (.slice e')) : Src P 1 tx v l.length (cellsOf l) w := by
  rcases h with ⟨rfl, rfl⟩ | ⟨g, o, c, rfl, h1, h2, h3, h4⟩
  · exact Src.ofNil w hk 0
  · refine Src.ofSlice w hk _ _ _ _ (by simp [cellsOf]) (fun j u hu => ?_) (cellsOf_one l)
    obtain ⟨hj, rfl⟩ := cellsOf_getElem? l j u hu
    rw [Addr.add_lit]
    exact h4 j hj

/-- A CUT OF WHAT IS READ: 's[lo:hi]' -/
theorem Rd.cut {w : World} {g o c n : Nat} {l : List Int} (h : Rd w (.slice (some ⟨g, o, none⟩) n c) l) (lo hi : Nat) (h1 : lo ≤ hi) (h2 : hi ≤ n) (v : Value)
    (hv : v = .slice (if c = lo then some ⟨g, o, none⟩ else some ⟨g, o + lo, none⟩) (hi - lo) (c - lo)) : Rd w v ((l.take hi).drop lo) := by
  rcases h with ⟨h, _⟩ | ⟨g', o', c', hh, k1, k2, k3, k4⟩
  · cases h
  · simp only [Value.slice.injEq, Option.some.injEq, Addr.mk.injEq, and_true] at hh
    obtain ⟨⟨rfl, rfl⟩, rfl, rfl⟩ := hh
    have hlen : ((l.take hi).drop lo).length = hi - lo := by simp; omega
    by_cases hc : c = lo
    · rw [if_pos hc] at hv
      refine .inr ⟨g, o, c - lo, by rw [hlen]; exact hv, by omega, by omega, k3, fun i hi' => by omega⟩
    · rw [if_neg hc] at hv
      refine .inr ⟨g, o + lo, c - lo, by rw [hlen]; exact hv, by omega, by omega, k3, fun i hi' => ?_⟩
      rw [Nat.add_assoc, k4 (lo + i) (by omega)]
      congr 2
      simp only [List.getD_eq_getElem?_getD, List.getElem?_drop, List.getElem?_take]
      rw [if_pos (by omega)]

/-- A row that has just been laid reads. -/
theorem Rd.lit (w : World) (xs : List Int) (cs : Array Value) (hcs : cs.toList = cellsOf xs) (hm : xs.length ≤ maxLen) : Rd (w.alloc (.cells cs 5)) (.slice (some ⟨w.heap.size, 0, none⟩) xs.length xs.length) xs := by
  refine .inr ⟨w.heap.size, 0, xs.length, rfl, Nat.le_refl _, hm, by simp, fun i hi => ?_⟩
  rw [cell_of_row _ w.heap.size (0 + i) cs 5 (0, 0) (heap_alloc_new w _), Nat.zero_add]
  have e : (cellsOf xs)[i]? = some (.int .u8 (xs.getD i 0)) := by simp [cellsOf, List.getD, hi]
  rw [← hcs] at e
  simpa using e
theorem Own.form {w : World} {v : Value} {l : List Int} (h : Own w v l) : ∃ a n c, v = .slice a n c := by
  rcases h.2 with ⟨rfl, _⟩ | ⟨g, cap, cur, rfl, _⟩
  · exact ⟨_, _, _, rfl⟩
  · exact ⟨_, _, _, rfl⟩
theorem Own.alloc {w : World} {v : Value} {l : List Int} (h : Own w v l) (o : Obj) : Own (w.alloc o) v l := h.kept (Kept.alloc w o (fun _ => False)) (fun _ _ h => h)
theorem Own.drew {w : World} {v : Value} {l : List Int} (h : Own w v l) : Own w.drew v l := h
theorem Rd.alloc {w : World} {v : Value} {l : List Int} (h : Rd w v l) (o : Obj) : Rd (w.alloc o) v l := h.kept (Kept.alloc w o (fun _ => False)) (fun _ _ h => h)
theorem Rd.drew {w : World} {v : Value} {l : List Int} (h : Rd w v l) : Rd w.drew v l := h

theorem In.kept {S : Nat → Prop} {w w' : World} {v : Value} {l : List Int} (h : In w v l) (hk : Kept S w w') (hS : ∀ k, k < w.heap.size → ¬ S k) : In w' v l := by
  rcases h with h | ⟨x, c, rfl, hc⟩
  · exact .inl h
  · refine .inr ⟨x, c, rfl, fun i hi => ?_⟩
    have h1 := block_lt_of_cell (hc i hi)
    rw [hk.cell h1 (hS _ h1)]
    exact hc i hi
theorem In.form {w : World} {v : Value} {l : List Int} (h : In w v l) : ∃ a c, v = .slice a l.length c := by
  rcases h with ⟨rfl, rfl⟩ | ⟨x, c, rfl, _⟩
  · exact ⟨_, _, rfl⟩
  · exact ⟨_, _, rfl⟩
theorem Rd.form {w : World} {v : Value} {l : List Int} (h : Rd w v l) : ∃ a c, v = .slice a l.length c := by
  rcases h with ⟨rfl, rfl⟩ | ⟨g, o, c, rfl, _⟩
  · exact ⟨_, _, rfl⟩
  · exact ⟨_, _, rfl⟩
/-- Where there is an element there is an address. -/
theorem Rd.addr {w : World} {a : Option Addr} {n c : Nat} {l : List Int} (h : Rd w (.slice a n c) l) (hp : 0 < l.length) :
    ∃ g o, a = some ⟨g, o, none⟩ ∧ n = l.length ∧ l.length ≤ c ∧ c ≤ maxLen ∧ g < w.heap.size ∧ ∀ i, i < l.length → w.cell? ⟨g, o + i, none⟩ = some (.int .u8 (l.getD i 0)) := by
  rcases h with ⟨_, rfl⟩ | ⟨g, o, c', h, h1, h2, h3, h4⟩
  · simp at hp
  · cases h
    exact ⟨g, o, rfl, rfl, h1, h2, h3, h4⟩

/-- A ROW THAT THE CALL IS WRITING: it lies in a block that is new since w0; nothing older has turned. -/
structure Wt (w0 wr : World) (v : Value) (L : List Int) : Prop where
  own : Own wr v L
  kept : Kept (fun _ => False) w0 wr
  later : ∀ g, v.ownBlock = some g → w0.heap.size ≤ g
theorem Wt.app {w0 wr wa w' : World} {v v' : Value} {L L' : List Int} (h : Wt w0 wr v L) (ha : Kept (fun _ => False) wr wa) (ho : Own w' v' L') (hg : wa.grownBy w' v.ownBlock)
    (hb : v'.ownBlock = v.ownBlock ∨ v'.ownBlock = some wa.heap.size) : Wt w0 w' v' L' := by
  have k1 := h.kept.trans ha (T := fun _ => False) (fun _ _ h => h) (fun _ _ h => h)
  refine ⟨ho, k1.trans (Kept.grown hg) (fun _ _ h => h) (fun k hk e => by have := h.later k e.symm; omega), fun g e => ?_⟩
  rcases hb with hb | hb
  · exact h.later g (by rw [← hb]; exact e)
  · rw [hb] at e; cases e; exact k1.size
theorem Wt.move {w0 wr wa : World} {v : Value} {L : List Int} (h : Wt w0 wr v L) (ha : Kept (fun _ => False) wr wa) : Wt w0 wa v L :=
  ⟨h.own.kept ha (fun _ _ h => h), h.kept.trans ha (fun _ _ h => h) (fun _ _ h => h), h.later⟩
theorem Wt.made {w w' : World} {N : Nat} (h : w'.ownsRow w.heap.size 5 1 (.slice (some ⟨w.heap.size, 0, none⟩) 0 N) 0 []) (hg : w.grownBy w' none) : Wt w w' (.slice (some ⟨w.heap.size, 0, none⟩) 0 N) [] := by
  refine ⟨⟨rfl, ?_⟩, (Kept.grown hg).mono (fun _ _ e => by cases e), fun g e => by cases e; exact Nat.le_refl _⟩
  rcases h.2 with ⟨h, _⟩ | ⟨g, cap, cur, h1, h2, h3⟩
  · cases h
  · exact .inr ⟨g, cap, cur, h1, Nat.zero_le _, h3⟩

/-- A string's bytes as a source. -/
theorem src_str {P : Program} (w : World) {tx : TypeId} (hk : P.underlying tx = some .string) (s : ByteArray) (nl : List Int) (h : byteCells s = cellsOf nl) : Src P 1 tx (.string s) nl.length (cellsOf nl) w := by
  have hl : s.size = nl.length := by rw [← byteCells_length, h, length_cellsOf]
  rw [← h, ← hl]
  exact Src.ofString w hk s

/-- The value v' lies where v lay, or in a block that is new since w. -/
def Blk (w : World) (v v' : Value) : Prop := v'.ownBlock = v.ownBlock ∨ ∃ g, w.heap.size ≤ g ∧ v'.ownBlock = some g
theorem Blk.old {w : World} {v v' : Value} (h : Blk w v v') {k : Nat} (hk : k < w.heap.size) (e : v'.ownBlock = some k) : v.ownBlock = some k := by
  rcases h with h | ⟨g, hg, h⟩
  · rw [← h]; exact e
  · rw [h] at e; cases e; omega
theorem Blk.onward {w wr : World} {v v' v'' : Value} (h : Blk w v v') (hs : w.heap.size ≤ wr.heap.size) (h2 : v''.ownBlock = v'.ownBlock ∨ v''.ownBlock = some wr.heap.size) : Blk w v v'' := by
  rcases h2 with h2 | h2
  · unfold Blk; rw [h2]; exact h
  · exact .inr ⟨_, hs, h2⟩

/-- A row that is being filled: k cells are copied. -/
def fillOf (l : List Int) (n k : Nat) : List Value := cellsOf (l.take k) ++ List.replicate (n - k) (Value.int .u8 0)
theorem fillOf_zero (l : List Int) (n : Nat) : fillOf l n 0 = List.replicate n (Value.int .u8 0) := by simp [fillOf, cellsOf]
theorem fillOf_full (l : List Int) (n : Nat) (hn : l.length = n) : fillOf l n n = cellsOf l := by
  simp [fillOf, cellsOf, List.take_of_length_le (Nat.le_of_eq hn)]
theorem fillOf_set (l : List Int) (n k : Nat) (hn : l.length = n) (hk : k < n) : (fillOf l n k).set k (.int .u8 (l.getD k 0)) = fillOf l n (k + 1) := by
  have hk' : k < l.length := by omega
  have e1 : (cellsOf (l.take k)).length = k := by simp [cellsOf]; omega
  have e2 : n - k = (n - (k + 1)) + 1 := by omega
  unfold fillOf
  rw [List.set_append_right _ _ (by omega), e1, Nat.sub_self, e2, List.replicate_succ, List.set_cons_zero]
  rw [List.take_succ_eq_append_getElem hk', cellsOf_append]
  simp [cellsOf, List.getD, hk']
theorem fillOf_some (l : List Int) (n k : Nat) (hn : l.length = n) (hk : k < n) : (fillOf l n k)[k]? = some (.int .u8 0) := by
  have e1 : (cellsOf (l.take k)).length = k := by simp [cellsOf]; omega
  unfold fillOf
  rw [List.getElem?_append_right (by omega), e1, Nat.sub_self, List.getElem?_replicate, if_pos (by omega)]

section
variable {P : Program} (w : World)

theorem nextcap_fits {n c : Nat} (h : n ≤ 70368744177664) : c < n → Builtin.nextslicecap n c * 1 ≤ 281474976710656 := fun hc => growslice_fits (bytes := 1) hc (by omega)

/-- append OF WHATEVER SOURCE ONTO AN OWNED ROW OF BYTES: the value behind it lies in the same block, or in a new one. -/
theorem run_append_bytes (t tx ty : TypeId) (i : TypeInfo) (ht : P.underlying t = some (.slice 5)) (hi : P.info? 5 = some i) (hz : i.zero = some (.int .u8 0)) (hsize : i.size = 1) (hby : i.bytes = 1)
    (v : Value) (l : List Int) (hown : Own w v l) (x : Value) (nl : List Int) (hs : Src P 1 tx x nl.length (cellsOf nl) w) (hb : l.length + nl.length ≤ 70368744177664) :
    ∃ v' w', (Builtin.append_ #[t, tx] ty #[v, x]).run P w = .ok v' w' ∧ Own w' v' (l ++ nl) ∧ w.grownBy w' v.ownBlock ∧ (v'.ownBlock = v.ownBlock ∨ v'.ownBlock = some w.heap.size) := by
  have hlen : (cellsOf (l ++ nl)).length = (l ++ nl).length * 1 := by simp [cellsOf]
  have hmx : (l ++ nl).length ≤ maxLen := by simp only [List.length_append, maxLen]; omega
  have hs' : Src P i.size tx x nl.length (cellsOf nl) w := by rw [hsize]; exact hs
  have grown : ∀ (old : Nat) (row : Option Nat), old < l.length + nl.length →
      Own (w.drew.alloc (.cells ((cellsOf l ++ cellsOf nl).toArray ++ Builtin.zeroCells (Value.int .u8 0).cells (grownCap w (l.length + nl.length) old 5 - (l.length + nl.length))) 5))
        (.slice (some ⟨w.heap.size, 0, none⟩) (l.length + nl.length) (grownCap w (l.length + nl.length) old 5)) (l ++ nl) ∧
      w.grownBy (w.drew.alloc (.cells ((cellsOf l ++ cellsOf nl).toArray ++ Builtin.zeroCells (Value.int .u8 0).cells (grownCap w (l.length + nl.length) old 5 - (l.length + nl.length))) 5)) row := by
    intro old row ho
    have hge := grownCap_ge w (l.length + nl.length) old 5
    have hcm : grownCap w (l.length + nl.length) old 5 ≤ maxLen := grownCap_le_maxLen w (l.length + nl.length) old 5 (by simpa using hmx)
    refine ⟨⟨hlen, .inr ⟨w.heap.size, _, _, by rw [List.length_append], Nat.zero_le _, heap_alloc_new w.drew _, by rw [List.length_append]; exact hge, hcm, ?_, ?_⟩⟩, ⟨rfl, rfl, rfl, by simp, fun k hk _ => Below.heap_alloc w.drew _ k hk⟩⟩
    · simp only [Array.size_append, List.size_toArray, size_zeroCells, List.length_append, length_cellsOf, Value.cells]
      simp
      omega
    · simp only [Array.toList_append]
      rw [← hlen, cellsOf_append]
      exact List.take_left
  rcases hown.2 with ⟨rfl, h0⟩ | ⟨g, cap, cur, rfl, hbg, hg, hnc, hcm, hcs, htake⟩
  · have hl0 : l = [] := List.eq_nil_of_length_eq_zero h0
    subst hl0
    by_cases hm : nl.length = 0
    · have hn : nl = [] := List.eq_nil_of_length_eq_zero hm
      subst hn
      refine ⟨.slice none 0 0, w, run_append_nothing w t tx ty 5 i ht hi none 0 0 (Nat.le_refl _) x (by simpa [cellsOf] using hs'), Own.nil w, ⟨rfl, rfl, rfl, Nat.le_refl _, fun _ _ _ => rfl⟩, .inl rfl⟩
    · have hg := grown 0 (Value.ownBlock (.slice none 0 0)) (by simp; omega)
      have hr := run_append_grow_src (P := P) w t tx ty 5 i (.int .u8 0) ht hi hz none 0 0 [] (run_firstCells_none w.drew i.size 0 0 0) x nl.length (cellsOf nl) hs' (by omega) (by have := hb; simp at this ⊢; omega) (by rw [hby]; exact nextcap_fits (by simpa using hb) (by omega))
      simp only [List.length_nil, cellsOf, List.map_nil] at hg
      exact ⟨_, _, hr, hg.1, hg.2, .inr rfl⟩
  · by_cases hroom : l.length + nl.length ≤ cap
    · have hst := run_storeCells_at P g (l.length * 1) 5 (cellsOf nl) 0 cur w hg (by simp only [length_cellsOf]; omega) hs.one
      simp only [Nat.add_zero, Nat.mul_one] at hst
      have hr : (Builtin.append_ #[t, tx] ty #[.slice (some ⟨g, 0, none⟩) l.length cap, x]).run P w =
          .ok (.slice (some ⟨g, 0, none⟩) (l.length + nl.length) cap) (w.setRow g (cur.toList.take l.length ++ cellsOf nl ++ cur.toList.drop (l.length + (cellsOf nl).length)).toArray) := by
        have hc1 := hs.cells
        rcases hs.kind with ⟨e', hk⟩ | hk <;> simp [Builtin.append_, run_underlying ht, run_underlying hk, sizeOf, typeInfo, hi, hsize, hs.len, hroom, hc1, Addr.add_lit, hst]
      refine ⟨_, _, hr, ⟨hlen, .inr ⟨g, cap, _, by rw [List.length_append], Nat.zero_le _, setRow_heap w g cur _ 5 _ hg, by rw [List.length_append]; exact hroom, hcm, ?_, ?_⟩⟩,
        ⟨rfl, rfl, rfl, by simp, fun k _ hk => setRow_other w g k _ (fun e => hk (by simp [Value.ownBlock, e]))⟩, .inl rfl⟩
      · simp only [List.size_toArray, List.length_append, List.length_take, List.length_drop, Array.length_toList, length_cellsOf]
        omega
      · rw [Nat.mul_one] at htake
        rw [htake, ← hlen, cellsOf_append]
        exact List.take_left
    · have holds : ∀ j u, (cellsOf l)[j]? = some u → w.cell? ((⟨g, 0, none⟩ : Addr).add j) = some u := World.ownsRow.cells hown (g := g) rfl
      have hf : (Builtin.firstCells i.size l.length (.slice (some ⟨g, 0, none⟩) l.length cap)).run P w.drew = .ok (cellsOf l).toArray w.drew := by
        rw [hsize]; exact run_firstCells_some w.drew 1 l.length ⟨g, 0, none⟩ l.length cap (cellsOf l) hown.1 holds
      have hr := run_append_grow_src (P := P) w t tx ty 5 i (.int .u8 0) ht hi hz (some ⟨g, 0, none⟩) l.length cap (cellsOf l) hf x nl.length (cellsOf nl) hs' (by omega) (by omega) (by rw [hby]; exact nextcap_fits hb (by omega))
      have hgr := grown cap (Value.ownBlock (.slice (some ⟨g, 0, none⟩) l.length cap)) (by omega)
      exact ⟨_, _, hr, hgr.1, hgr.2, .inr rfl⟩

/-- The same, for the walk. -/
theorem wpList_append_bytes {ops : Array Oper} {rest : List Oper} {o : Oper} {a : Act} {Q : Exit → Act → World → Prop} (hgd : o.guard = none) (s x : Operand) (t tx : TypeId)
    (ho : o.op = .call { callee := .builtin .append, args := #[s, x], argTypes := #[t, tx] })
    (i : TypeInfo) (ht : P.underlying t = some (.slice 5)) (hi : P.info? 5 = some i) (hz : i.zero = some (.int .u8 0)) (hsize : i.size = 1) (hby : i.bytes = 1)
    (v : Value) (l : List Int) (hv : a.eval s = v) (hown : Own w v l) (xv : Value) (nl : List Int) (hx : a.eval x = xv) (hs : Src P 1 tx xv nl.length (cellsOf nl) w) (hb : l.length + nl.length ≤ 70368744177664)
    (h : ∀ v' w', Own w' v' (l ++ nl) → w.grownBy w' v.ownBlock → (v'.ownBlock = v.ownBlock ∨ v'.ownBlock = some w.heap.size) → wpList P ops Q rest (a.put o.dst v') w') : wpList P ops Q (o :: rest) a w := by
  refine wpList_plain hgd fun K hK => ?_
  obtain ⟨v', w', hr, h2, h3, h4⟩ := run_append_bytes (P := P) w t tx o.type i ht hi hz hsize hby v l hown xv nl hs hb
  unfold Oper.wp
  simp only [execOp, ho, resolve, invoke, builtin, Sem.run_bind, Sem.run_pure, Result.andThen_ok, List.map_toArray, List.map_cons, List.map_nil, hv, hx, hr]
  exact hK _ _ (h v' w' h2 h3 h4)

/-- The same, as one step of a region that draws. -/
theorem step_append_bytes {ops : Array Oper} {o : Oper} {a : Act} {K : Act → World → Prop} {Q : Exit → Act → World → Prop} {E : Prop} (hgd : o.guard = none) (s x : Operand) (t tx : TypeId)
    (ho : o.op = .call { callee := .builtin .append, args := #[s, x], argTypes := #[t, tx] })
    (i : TypeInfo) (ht : P.underlying t = some (.slice 5)) (hi : P.info? 5 = some i) (hz : i.zero = some (.int .u8 0)) (hsize : i.size = 1) (hby : i.bytes = 1)
    (v : Value) (l : List Int) (hv : a.eval s = v) (hown : Own w v l) (xv : Value) (nl : List Int) (hx : a.eval x = xv) (hs : Src P 1 tx xv nl.length (cellsOf nl) w) (hb : l.length + nl.length ≤ 70368744177664)
    (h : ∀ v' w', Own w' v' (l ++ nl) → w.grownBy w' v.ownBlock → (v'.ownBlock = v.ownBlock ∨ v'.ownBlock = some w.heap.size) → K (a.put o.dst v') w') :
    if Region.wanted o (yielded ops a.tmps) = true then Oper.wp P o a w K Q else E := by
  have hw : Region.wanted o (yielded ops a.tmps) = true := by simp [Region.wanted, hgd]
  rw [if_pos hw]
  obtain ⟨v', w', hr, h2, h3, h4⟩ := run_append_bytes (P := P) w t tx o.type i ht hi hz hsize hby v l hown xv nl hs hb
  unfold Oper.wp
  simp only [execOp, ho, resolve, invoke, builtin, Sem.run_bind, Sem.run_pure, Result.andThen_ok, List.map_toArray, List.map_cons, List.map_nil, hv, hx, hr]
  exact h v' w' h2 h3 h4

end
end Go.Proofs.Qxb6603725a
