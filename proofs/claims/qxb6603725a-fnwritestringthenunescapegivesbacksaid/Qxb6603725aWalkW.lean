/-
  THE WALKS, W: (*jsonWriter).writeString (26).
-/
import Derived.Test.Qxb6603725aWalkA
import Derived.Test.Qxb6603725aPlain
import Derived.Deep.RegionLaw
namespace Go.Proofs.Qxb6603725a
open Go.RowKit

/-- The writer's block: its first cell holds v. -/
def Box (w : World) (B : Nat) (v : Value) : Prop := ∃ cs : Array Value, w.heap[B]? = some (.cells cs 43 (0, 0)) ∧ cs[0]? = some v
theorem Box.cell {w : World} {B : Nat} {v : Value} (h : Box w B v) : w.cell? ⟨B, 0, none⟩ = some v := by
  obtain ⟨cs, h1, h2⟩ := h
  rw [cell_of_row w B 0 cs 43 (0, 0) h1, h2]
theorem Box.free {w : World} {B : Nat} {v : Value} (h : Box w B v) : w.frozen? ⟨B, 0, none⟩ = false := by
  obtain ⟨cs, h1, h2⟩ := h
  exact frozen_of_row w B 0 cs 43 h1
theorem Box.lt {w : World} {B : Nat} {v : Value} (h : Box w B v) : B < w.heap.size := by
  obtain ⟨cs, h1, h2⟩ := h
  exact lt_of_block h1
theorem Box.set {w : World} {B : Nat} {v : Value} (h : Box w B v) (u : Value) : Box (w.setCell ⟨B, 0, none⟩ u) B u := by
  obtain ⟨cs, h1, h2⟩ := h
  refine ⟨cs.setIfInBounds 0 u, heap_setCell_same w B 0 cs 43 u h1, ?_⟩
  have : 0 < cs.size := (Array.getElem?_eq_some_iff.1 h2).1
  simp [this]
theorem Box.kept {S : Nat → Prop} {w w' : World} {B : Nat} {v : Value} (h : Box w B v) (hk : Kept S w w') (hS : ¬ S B) : Box w' B v := by
  obtain ⟨cs, h1, h2⟩ := h
  exact ⟨cs, by rw [hk.block B (lt_of_block h1) hS]; exact h1, h2⟩
theorem Box.apart {w : World} {B : Nat} {v : Value} (h : Box w B v) {u : Value} {l : List Int} (ho : Own w u l) : u.ownBlock ≠ some B := by
  intro e
  obtain ⟨cs, h1, h2⟩ := h
  obtain ⟨cur, h3⟩ := ho.block B e
  rw [h1] at h3
  cases h3

structure WS (w : World) (B : Nat) (v : Value) (l sl : List Int) (k f : Nat) (v' : Value) (wr : World) : Prop where
  box : Box wr B v'
  own : Own wr v' (l ++ 34 :: enc (sl.take f))
  eqn : enc (sl.take k) = enc (sl.take f) ++ (sl.take k).drop f
  kept : Kept (fun j => j = B ∨ some j = v.ownBlock) w wr
  blk : Blk w v v'

theorem Box.store {w : World} {B : Nat} {u v : Value} {L : List Int} (h : Box w B u) (ho : Own w v L) : Box (w.setCell ⟨B, 0, none⟩ v) B v ∧ Own (w.setCell ⟨B, 0, none⟩ v) v L :=
  ⟨h.set v, ho.kept (Kept.setCell w ⟨B, 0, none⟩ v) (fun _ hk e => h.apart ho (by rw [hk, e]))⟩

/-- one append onto the writer's row: what is left of the frame -/
theorem kept_app {w wr w1 : World} {B : Nat} {v v' : Value} (hk : Kept (fun j => j = B ∨ some j = v.ownBlock) w wr) (hb : Blk w v v') (hg : wr.grownBy w1 v'.ownBlock) : Kept (fun j => j = B ∨ some j = v.ownBlock) w w1 :=
  hk.trans (Kept.grown hg) (fun _ _ h => h) (fun _ hk h => .inr (hb.old hk h.symm).symm)

theorem ws_start {w w1 : World} {o : Obj} {B : Nat} {v v1 : Value} {l : List Int} (sl : List Int) (hbox : Box w B v) (hown : Own w v l) (h1 : Own w1 v1 (l ++ [34])) (hg : (w.alloc o).grownBy w1 v.ownBlock)
    (hb : v1.ownBlock = v.ownBlock ∨ v1.ownBlock = some (w.heap.size + 1)) : Box w1 B v ∧ WS w B v l sl 0 0 v1 (w1.setCell ⟨B, 0, none⟩ v1) := by
  have hb0 : Box (w.alloc o) B v := hbox.kept (Kept.alloc w o (fun _ => False)) (fun h => h)
  have hb1 : Box w1 B v := hb0.kept (Kept.grown hg) (fun e => hbox.apart hown e.symm)
  have hs := hb1.store h1
  have hk : Kept (fun j => j = B ∨ some j = v.ownBlock) w w1 := kept_app (Kept.alloc w o _) (.inl rfl) hg
  exact ⟨hb1, hs.1, by simpa [enc] using hs.2, by simp [enc], hk.trans (Kept.setCell w1 ⟨B, 0, none⟩ v1) (fun _ _ h => h) (fun _ _ h => .inl h), Blk.onward (wr := w.alloc o) (.inl rfl) (by simp) (by simpa using hb)⟩

theorem ws_plain {w wr : World} {B : Nat} {v v' : Value} {l sl : List Int} {k f : Nat} (h : WS w B v l sl k f v' wr) (hf : f ≤ k) {c : Int} (hc : sl[k]? = some c) (he : esc c = none) : WS w B v l sl (k + 1) f v' wr := by
  refine ⟨h.box, h.own, ?_, h.kept, h.blk⟩
  rw [enc_take_succ hc, h.eqn, take_take_drop sl f k c hf hc]
  simp [encB, he]

theorem ws_esc {w wr w1 w2 : World} {B : Nat} {v v' v1 v2 : Value} {l sl : List Int} {k f : Nat} {e : List Int} (h : WS w B v l sl k f v' wr) {c : Int} (hc : sl[k]? = some c) (he : esc c = some e)
    (h1 : Own w1 v1 ((l ++ 34 :: enc (sl.take f)) ++ (sl.take k).drop f)) (hg1 : wr.drew.grownBy w1 v'.ownBlock) (hb1 : v1.ownBlock = v'.ownBlock ∨ v1.ownBlock = some wr.drew.heap.size)
    (h2 : Own w2 v2 (((l ++ 34 :: enc (sl.take f)) ++ (sl.take k).drop f) ++ e)) (hg2 : w1.grownBy w2 v1.ownBlock) (hb2 : v2.ownBlock = v1.ownBlock ∨ v2.ownBlock = some w1.heap.size) :
    Box w2 B v' ∧ WS w B v l sl (k + 1) (k + 1) v2 (w2.setCell ⟨B, 0, none⟩ v2) := by
  have hx1 : Box w1 B v' := (h.box.kept (Kept.drew wr (fun _ => False)) (fun h => h)).kept (Kept.grown hg1) (fun e => h.box.apart h.own e.symm)
  have hx2 : Box w2 B v' := hx1.kept (Kept.grown hg2) (fun e => hx1.apart h1 e.symm)
  have hs := hx2.store h2
  have B1 : Blk w v v1 := h.blk.onward (wr := wr.drew) h.kept.size hb1
  have K1 := kept_app (h.kept.trans (Kept.drew wr (fun _ => False)) (fun _ _ h => h) (fun _ _ h => h.elim)) h.blk hg1
  have K2 := kept_app K1 B1 hg2
  refine ⟨hx2, hs.1, ?_, by simp, K2.trans (Kept.setCell w2 ⟨B, 0, none⟩ v2) (fun _ _ h => h) (fun _ _ h => .inl h), B1.onward K1.size hb2⟩
  have e1 : l ++ 34 :: enc (sl.take (k + 1)) = ((l ++ 34 :: enc (sl.take f)) ++ (sl.take k).drop f) ++ e := by
    rw [enc_take_succ hc, h.eqn]
    simp [encB, he]
  rw [e1]
  exact hs.2

theorem ws_bd {w wr : World} {B : Nat} {v v' : Value} {l sl : List Int} {k f : Nat} (h : WS w B v l sl k f v' wr) (hk : k ≤ sl.length) (hb : l.length + 6 * sl.length + 2 ≤ 70368744177664) :
    (l ++ 34 :: enc (sl.take f)).length + ((sl.take k).drop f).length ≤ 70368744177664 ∧
    (k < sl.length → ∀ e : List Int, e.length ≤ 6 → ((l ++ 34 :: enc (sl.take f)) ++ (sl.take k).drop f).length + e.length ≤ 70368744177664) ∧
    ((l ++ 34 :: enc (sl.take f)) ++ (sl.take k).drop f).length + [(34 : Int)].length ≤ 70368744177664 := by
  have e1 : (enc (sl.take k)).length = (enc (sl.take f)).length + ((sl.take k).drop f).length := by rw [h.eqn, List.length_append]
  have e2 := enc_length (sl.take k)
  have e3 : (sl.take k).length ≤ k := by simp; omega
  refine ⟨?_, fun hlt e he => ?_, ?_⟩
  · rw [List.length_append, List.length_cons]; omega
  · rw [List.length_append, List.length_append, List.length_cons]; omega
  · rw [List.length_append, List.length_append, List.length_cons, List.length_singleton]; omega

theorem ws_fin {w wr wa w1 wb w2 : World} {B : Nat} {v v' v1 v2 : Value} {l sl : List Int} {k f : Nat} (h : WS w B v l sl k f v' wr) (hk : k = sl.length) (ha : Kept (fun _ => False) wr wa)
    (h1 : Own w1 v1 ((l ++ 34 :: enc (sl.take f)) ++ (sl.take k).drop f)) (hg1 : wa.grownBy w1 v'.ownBlock) (hb1 : v1.ownBlock = v'.ownBlock ∨ v1.ownBlock = some wa.heap.size) (hb : Kept (fun _ => False) w1 wb)
    (h2 : Own w2 v2 (((l ++ 34 :: enc (sl.take f)) ++ (sl.take k).drop f) ++ [34])) (hg2 : wb.grownBy w2 v1.ownBlock) (hb2 : v2.ownBlock = v1.ownBlock ∨ v2.ownBlock = some wb.heap.size) :
    Box w2 B v' ∧ Box (w2.setCell ⟨B, 0, none⟩ v2) B v2 ∧ Own (w2.setCell ⟨B, 0, none⟩ v2) v2 (l ++ quote sl) ∧ Kept (fun j => j = B ∨ some j = v.ownBlock) w (w2.setCell ⟨B, 0, none⟩ v2) ∧ Blk w v v2 := by
  have hx1 : Box w1 B v' := (h.box.kept ha (fun h => h)).kept (Kept.grown hg1) (fun e => h.box.apart h.own e.symm)
  have hx2 : Box w2 B v' := (hx1.kept hb (fun h => h)).kept (Kept.grown hg2) (fun e => hx1.apart h1 e.symm)
  have hs := hx2.store h2
  have Ka := h.kept.trans ha (fun _ _ h => h) (fun _ _ h => h.elim)
  have B1 : Blk w v v1 := h.blk.onward (wr := wa) Ka.size hb1
  have K1 := kept_app Ka h.blk hg1
  have Kb := K1.trans hb (fun _ _ h => h) (fun _ _ h => h.elim)
  have K2 := kept_app Kb B1 hg2
  refine ⟨hx2, hs.1, ?_, K2.trans (Kept.setCell w2 ⟨B, 0, none⟩ v2) (fun _ _ h => h) (fun _ _ h => .inl h), B1.onward Kb.size hb2⟩
  have e1 : l ++ quote sl = ((l ++ 34 :: enc (sl.take f)) ++ (sl.take k).drop f) ++ [34] := by
    have e2 := h.eqn
    rw [hk, List.take_of_length_le (Nat.le_refl _)] at e2
    rw [hk, List.take_of_length_le (Nat.le_refl _), quote, e2]
    simp
  rw [e1]
  exact hs.2

set_option maxHeartbeats 3200000 in
theorem ws_some (B : Nat) (va : Option Addr) (vn vc : Nat) (l : List Int) (g o n c : Nat) (sl : List Int) (w : World) (hbox : Box w B (.slice va vn vc)) (hown : Own w (.slice va vn vc) l)
    (hn : sl.length = n) (hs : Rd w (.slice (some ⟨g, o, none⟩) n c) sl) (hsB : g ≠ B) (hsv : (Value.slice va vn vc).ownBlock ≠ some g) (hbd : l.length + 6 * n + 2 ≤ 70368744177664) :
    Calls Try.prog 26 #[.pointer (some ⟨B, 0, none⟩), .slice (some ⟨g, o, none⟩) n c] w fun e w' => e = .returned (.tuple #[]) ∧ ∃ v', Box w' B v' ∧ Own w' v' (l ++ quote sl) ∧
      Kept (fun j => j = B ∨ some j = (Value.slice va vn vc).ownBlock) w w' ∧ Blk w (.slice va vn vc) v' := by
  obtain ⟨i0, hi, hz0, hz1, hz2⟩ := info_parts info5
  have hcB := hbox.cell
  have hfB := hbox.free
  have hltB := hbox.lt
  go_enter Try.func26, Try.ntmps26
  go_wp2_with (at_builtin; refine wpList_append_bytes _ rfl (.tmp 12) (.tmp 13) 22 22 rfl i0 Try.underlying22 hi hz0 hz1 hz2 _ l rfl (hown.alloc _) _ [34] rfl ((Rd.lit w [34] _ rfl (by simp [maxLen])).src Try.underlying22) ?b1 ?_)
  case b1 => simp; omega
  intro v1 w1 hown1 hgrow1 hblk1
  obtain ⟨hb1, S0⟩ := ws_start sl hbox hown hown1 hgrow1 hblk1
  obtain ⟨a1, n1, c1, hv1⟩ := hown1.form
  have hc1 := hb1.cell
  have hf1 := hb1.free
  have hl1 := hb1.lt
  clear hown1 hgrow1 hblk1 hb1 hcB hfB
  rw [hv1] at S0 ⊢
  clear hv1
  go_wp2
  go_loopw [4, 19] (fun fr ix wr => ∃ (k f : Nat) (v' : Value), k ≤ n ∧ f ≤ k ∧ ix = .int .i64 k ∧ fr = .int .i64 f ∧ WS w B (.slice va vn vc) l sl k f v' wr) (fun _ ix _ => n - (intOf ix).toNat)
  case atStart => exact ⟨0, 0, _, Nat.zero_le _, Nat.zero_le _, rfl, rfl, S0⟩
  case round =>
    obtain ⟨k, f, v', hk, hf, rfl, rfl, S⟩ := hrel
    obtain ⟨a2, n2, c2, rfl⟩ := S.own.form
    have hcB := S.box.cell
    have hfB := S.box.free
    have hltB := S.box.lt
    have hsr : Rd wr (.slice (some ⟨g, o, none⟩) n c) sl := hs.kept S.kept (fun j hj => by cases hj; rintro (h | h); exact hsB h; exact hsv h.symm)
    by_cases hlt : k < n
    · have hcs : wr.cell? ⟨g, o + k, none⟩ = some (.int .u8 (sl.getD k 0)) := by
        rcases hsr with ⟨h, _⟩ | ⟨g', o', c', h, _, _, _, h5⟩
        · cases h
        · cases h; exact h5 k (by omega)
      have HC := hid_get sl k (by omega)
      have hnc : n ≤ c := by
        rcases hsr with ⟨h, _⟩ | ⟨g', o', c', h, h1, _, _, h5⟩
        · cases h
        · cases h; omega
      have hkc : k ≤ c := by omega
      obtain ⟨bd1, bd2, _⟩ := ws_bd S (by omega) (by omega)
      have hcut := fun v hv => hsr.cut f k hf (by omega) v hv
      generalize sl.getD k 0 = ch at hcs HC
      clear S0 hs hown hbox
      rcases esc_ways ch with ⟨rfl, he⟩ | ⟨rfl, he⟩ | ⟨rfl, he⟩ | ⟨rfl, he⟩ | ⟨rfl, he⟩ | ⟨rfl, he⟩ | ⟨rfl, he⟩ | ⟨rfl, he⟩ | ⟨h1, h2, h3, h4, h5, h6, h7, h8, he⟩
      · have HE : Hid (esc 34 = some [92, 34]) := he
        have bd2' := bd2 (by omega) [92, 34] (by simp)
        clear he bd2
        go_wp2
        go_region_law (first | (refine step_append_bytes _ rfl (.tmp 45) (.tmp 49) 22 22 rfl i0 Try.underlying22 hi hz0 hz1 hz2 _ _ rfl S.own.drew _ _ rfl ((hcut _ rfl).drew.src Try.underlying22) bd1 ?_; intro v1 w1 o1 g1 k1) | (refine step_append_bytes _ rfl (.tmp 50) (.tmp 51) 22 9 rfl i0 Try.underlying22 hi hz0 hz1 hz2 _ _ rfl o1 _ [92, 34] rfl (src_str _ Try.underlying9 _ [92, 34] rfl) bd2' ?_; intro v2 w2 o2 g2 k2; obtain ⟨b2, S2⟩ := ws_esc S HC.out HE.out o1 g1 k1 o2 g2 k2; obtain ⟨a3, n3, c3, hv⟩ := o2.form; rw [hv] at S2 ⊢; have hc2 := b2.cell; have hf2 := b2.free; have hl2 := b2.lt; clear o1 g1 k1 o2 g2 k2 b2 hv))
        go_wp2
        go_roundw
        case rel => exact ⟨k + 1, k + 1, _, by omega, by omega, by go_num, by go_num, S2⟩
        case measure => simp [intOf]; omega
      · have HE : Hid (esc 92 = some [92, 92]) := he
        have bd2' := bd2 (by omega) [92, 92] (by simp)
        clear he bd2
        go_wp2
        go_region_law (first | (refine step_append_bytes _ rfl (.tmp 45) (.tmp 49) 22 22 rfl i0 Try.underlying22 hi hz0 hz1 hz2 _ _ rfl S.own.drew _ _ rfl ((hcut _ rfl).drew.src Try.underlying22) bd1 ?_; intro v1 w1 o1 g1 k1) | (refine step_append_bytes _ rfl (.tmp 50) (.tmp 51) 22 9 rfl i0 Try.underlying22 hi hz0 hz1 hz2 _ _ rfl o1 _ [92, 92] rfl (src_str _ Try.underlying9 _ [92, 92] rfl) bd2' ?_; intro v2 w2 o2 g2 k2; obtain ⟨b2, S2⟩ := ws_esc S HC.out HE.out o1 g1 k1 o2 g2 k2; obtain ⟨a3, n3, c3, hv⟩ := o2.form; rw [hv] at S2 ⊢; have hc2 := b2.cell; have hf2 := b2.free; have hl2 := b2.lt; clear o1 g1 k1 o2 g2 k2 b2 hv))
        go_wp2
        go_roundw
        case rel => exact ⟨k + 1, k + 1, _, by omega, by omega, by go_num, by go_num, S2⟩
        case measure => simp [intOf]; omega
      · have HE : Hid (esc 10 = some [92, 110]) := he
        have bd2' := bd2 (by omega) [92, 110] (by simp)
        clear he bd2
        go_wp2
        go_region_law (first | (refine step_append_bytes _ rfl (.tmp 45) (.tmp 49) 22 22 rfl i0 Try.underlying22 hi hz0 hz1 hz2 _ _ rfl S.own.drew _ _ rfl ((hcut _ rfl).drew.src Try.underlying22) bd1 ?_; intro v1 w1 o1 g1 k1) | (refine step_append_bytes _ rfl (.tmp 50) (.tmp 51) 22 9 rfl i0 Try.underlying22 hi hz0 hz1 hz2 _ _ rfl o1 _ [92, 110] rfl (src_str _ Try.underlying9 _ [92, 110] rfl) bd2' ?_; intro v2 w2 o2 g2 k2; obtain ⟨b2, S2⟩ := ws_esc S HC.out HE.out o1 g1 k1 o2 g2 k2; obtain ⟨a3, n3, c3, hv⟩ := o2.form; rw [hv] at S2 ⊢; have hc2 := b2.cell; have hf2 := b2.free; have hl2 := b2.lt; clear o1 g1 k1 o2 g2 k2 b2 hv))
        go_wp2
        go_roundw
        case rel => exact ⟨k + 1, k + 1, _, by omega, by omega, by go_num, by go_num, S2⟩
        case measure => simp [intOf]; omega
      · have HE : Hid (esc 13 = some [92, 114]) := he
        have bd2' := bd2 (by omega) [92, 114] (by simp)
        clear he bd2
        go_wp2
        go_region_law (first | (refine step_append_bytes _ rfl (.tmp 45) (.tmp 49) 22 22 rfl i0 Try.underlying22 hi hz0 hz1 hz2 _ _ rfl S.own.drew _ _ rfl ((hcut _ rfl).drew.src Try.underlying22) bd1 ?_; intro v1 w1 o1 g1 k1) | (refine step_append_bytes _ rfl (.tmp 50) (.tmp 51) 22 9 rfl i0 Try.underlying22 hi hz0 hz1 hz2 _ _ rfl o1 _ [92, 114] rfl (src_str _ Try.underlying9 _ [92, 114] rfl) bd2' ?_; intro v2 w2 o2 g2 k2; obtain ⟨b2, S2⟩ := ws_esc S HC.out HE.out o1 g1 k1 o2 g2 k2; obtain ⟨a3, n3, c3, hv⟩ := o2.form; rw [hv] at S2 ⊢; have hc2 := b2.cell; have hf2 := b2.free; have hl2 := b2.lt; clear o1 g1 k1 o2 g2 k2 b2 hv))
        go_wp2
        go_roundw
        case rel => exact ⟨k + 1, k + 1, _, by omega, by omega, by go_num, by go_num, S2⟩
        case measure => simp [intOf]; omega
      · have HE : Hid (esc 9 = some [92, 116]) := he
        have bd2' := bd2 (by omega) [92, 116] (by simp)
        clear he bd2
        go_wp2
        go_region_law (first | (refine step_append_bytes _ rfl (.tmp 45) (.tmp 49) 22 22 rfl i0 Try.underlying22 hi hz0 hz1 hz2 _ _ rfl S.own.drew _ _ rfl ((hcut _ rfl).drew.src Try.underlying22) bd1 ?_; intro v1 w1 o1 g1 k1) | (refine step_append_bytes _ rfl (.tmp 50) (.tmp 51) 22 9 rfl i0 Try.underlying22 hi hz0 hz1 hz2 _ _ rfl o1 _ [92, 116] rfl (src_str _ Try.underlying9 _ [92, 116] rfl) bd2' ?_; intro v2 w2 o2 g2 k2; obtain ⟨b2, S2⟩ := ws_esc S HC.out HE.out o1 g1 k1 o2 g2 k2; obtain ⟨a3, n3, c3, hv⟩ := o2.form; rw [hv] at S2 ⊢; have hc2 := b2.cell; have hf2 := b2.free; have hl2 := b2.lt; clear o1 g1 k1 o2 g2 k2 b2 hv))
        go_wp2
        go_roundw
        case rel => exact ⟨k + 1, k + 1, _, by omega, by omega, by go_num, by go_num, S2⟩
        case measure => simp [intOf]; omega
      · have HE : Hid (esc 60 = some [92, 117, 48, 48, 51, 99]) := he
        have bd2' := bd2 (by omega) [92, 117, 48, 48, 51, 99] (by simp)
        clear he bd2
        go_wp2
        go_region_law (first | (refine step_append_bytes _ rfl (.tmp 45) (.tmp 49) 22 22 rfl i0 Try.underlying22 hi hz0 hz1 hz2 _ _ rfl S.own.drew _ _ rfl ((hcut _ rfl).drew.src Try.underlying22) bd1 ?_; intro v1 w1 o1 g1 k1) | (refine step_append_bytes _ rfl (.tmp 50) (.tmp 51) 22 9 rfl i0 Try.underlying22 hi hz0 hz1 hz2 _ _ rfl o1 _ [92, 117, 48, 48, 51, 99] rfl (src_str _ Try.underlying9 _ [92, 117, 48, 48, 51, 99] rfl) bd2' ?_; intro v2 w2 o2 g2 k2; obtain ⟨b2, S2⟩ := ws_esc S HC.out HE.out o1 g1 k1 o2 g2 k2; obtain ⟨a3, n3, c3, hv⟩ := o2.form; rw [hv] at S2 ⊢; have hc2 := b2.cell; have hf2 := b2.free; have hl2 := b2.lt; clear o1 g1 k1 o2 g2 k2 b2 hv))
        go_wp2
        go_roundw
        case rel => exact ⟨k + 1, k + 1, _, by omega, by omega, by go_num, by go_num, S2⟩
        case measure => simp [intOf]; omega
      · have HE : Hid (esc 62 = some [92, 117, 48, 48, 51, 101]) := he
        have bd2' := bd2 (by omega) [92, 117, 48, 48, 51, 101] (by simp)
        clear he bd2
        go_wp2
        go_region_law (first | (refine step_append_bytes _ rfl (.tmp 45) (.tmp 49) 22 22 rfl i0 Try.underlying22 hi hz0 hz1 hz2 _ _ rfl S.own.drew _ _ rfl ((hcut _ rfl).drew.src Try.underlying22) bd1 ?_; intro v1 w1 o1 g1 k1) | (refine step_append_bytes _ rfl (.tmp 50) (.tmp 51) 22 9 rfl i0 Try.underlying22 hi hz0 hz1 hz2 _ _ rfl o1 _ [92, 117, 48, 48, 51, 101] rfl (src_str _ Try.underlying9 _ [92, 117, 48, 48, 51, 101] rfl) bd2' ?_; intro v2 w2 o2 g2 k2; obtain ⟨b2, S2⟩ := ws_esc S HC.out HE.out o1 g1 k1 o2 g2 k2; obtain ⟨a3, n3, c3, hv⟩ := o2.form; rw [hv] at S2 ⊢; have hc2 := b2.cell; have hf2 := b2.free; have hl2 := b2.lt; clear o1 g1 k1 o2 g2 k2 b2 hv))
        go_wp2
        go_roundw
        case rel => exact ⟨k + 1, k + 1, _, by omega, by omega, by go_num, by go_num, S2⟩
        case measure => simp [intOf]; omega
      · have HE : Hid (esc 38 = some [92, 117, 48, 48, 50, 54]) := he
        have bd2' := bd2 (by omega) [92, 117, 48, 48, 50, 54] (by simp)
        clear he bd2
        go_wp2
        go_region_law (first | (refine step_append_bytes _ rfl (.tmp 45) (.tmp 49) 22 22 rfl i0 Try.underlying22 hi hz0 hz1 hz2 _ _ rfl S.own.drew _ _ rfl ((hcut _ rfl).drew.src Try.underlying22) bd1 ?_; intro v1 w1 o1 g1 k1) | (refine step_append_bytes _ rfl (.tmp 50) (.tmp 51) 22 9 rfl i0 Try.underlying22 hi hz0 hz1 hz2 _ _ rfl o1 _ [92, 117, 48, 48, 50, 54] rfl (src_str _ Try.underlying9 _ [92, 117, 48, 48, 50, 54] rfl) bd2' ?_; intro v2 w2 o2 g2 k2; obtain ⟨b2, S2⟩ := ws_esc S HC.out HE.out o1 g1 k1 o2 g2 k2; obtain ⟨a3, n3, c3, hv⟩ := o2.form; rw [hv] at S2 ⊢; have hc2 := b2.cell; have hf2 := b2.free; have hl2 := b2.lt; clear o1 g1 k1 o2 g2 k2 b2 hv))
        go_wp2
        go_roundw
        case rel => exact ⟨k + 1, k + 1, _, by omega, by omega, by go_num, by go_num, S2⟩
        case measure => simp [intOf]; omega
      · have HE : Hid (esc ch = none) := he
        have S2 := ws_plain S hf HC.out HE.out
        clear he bd1 bd2
        go_wp2
        go_roundw
        case rel => exact ⟨k + 1, f, _, by omega, by omega, by go_num, rfl, S2⟩
        case measure => simp [intOf]; omega
    · obtain rfl : k = n := by omega
      obtain ⟨bd1, _, bd3⟩ := ws_bd S (by omega) (by omega)
      have hcut := fun v hv => hsr.cut f k hf (Nat.le_refl _) v hv
      have hlit := Rd.lit wr [34] #[.int .u8 34] rfl (by simp [maxLen])
      have hnc : k ≤ c := by
        rcases hsr with ⟨h, _⟩ | ⟨g', o', c', h, h1, _, _, h5⟩
        · cases h
        · cases h; omega
      have hfc : f ≤ c := by omega
      have hgl : ∀ w1 : World, (wr.alloc (.cells #[.int .u8 34] 5)).drew.grownBy w1 (Value.slice a2 n2 c2).ownBlock → Rd w1 (.slice (some ⟨wr.heap.size, 0, none⟩) 1 1) [34] := fun w1 hg =>
        hlit.drew.kept (Kept.grown hg) (fun j hj e => by cases hj; exact absurd (S.own.lt wr.heap.size e.symm) (Nat.lt_irrefl _))
      clear S0 hs hown hbox
      go_wp2
      go_region_law (first
        | (refine step_append_bytes wr.drew rfl (.tmp 62) (.tmp 65) 22 22 rfl i0 Try.underlying22 hi hz0 hz1 hz2 _ _ rfl S.own.drew _ _ rfl ((hcut _ rfl).drew.src Try.underlying22) bd1 ?_; intro v1 w1 o1 g1 k1)
        | (refine step_append_bytes (wr.alloc (.cells #[.int .u8 34] 5)).drew rfl (.tmp 62) (.tmp 65) 22 22 rfl i0 Try.underlying22 hi hz0 hz1 hz2 _ _ rfl (S.own.alloc _).drew _ _ rfl (((hcut _ rfl).alloc _).drew.src Try.underlying22) bd1 ?_; intro v1 w1 o1 g1 k1)
        | (refine step_append_bytes (w1.alloc (.cells #[.int .u8 34] 5)) rfl (.tmp 66) (.tmp 67) 22 22 rfl i0 Try.underlying22 hi hz0 hz1 hz2 _ _ rfl (o1.alloc _) _ [34] rfl ((Rd.lit w1 [34] #[.int .u8 34] rfl (by simp [maxLen])).src Try.underlying22) bd3 ?_; intro v2 w2 o2 g2 k2; obtain ⟨b2, S2⟩ := ws_fin S hn.symm (Kept.drew wr _) o1 g1 k1 (Kept.alloc w1 _ _) o2 g2 k2; obtain ⟨a3, n3, c3, hv⟩ := o2.form; rw [hv] at S2 ⊢; have hc2 := b2.cell; have hf2 := b2.free; have hl2 := b2.lt; clear o1 g1 k1 o2 g2 k2 b2 hv)
        | (refine step_append_bytes w1 rfl (.tmp 66) (.tmp 67) 22 22 rfl i0 Try.underlying22 hi hz0 hz1 hz2 _ _ rfl o1 _ [34] rfl ((hgl w1 g1).src Try.underlying22) bd3 ?_; intro v2 w2 o2 g2 k2; obtain ⟨b2, S2⟩ := ws_fin S hn.symm ((Kept.alloc wr _ _).trans (Kept.drew _ _) (fun _ _ h => h) (fun _ _ h => h)) o1 g1 k1 (Kept.refl _ w1) o2 g2 k2; obtain ⟨a3, n3, c3, hv⟩ := o2.form; rw [hv] at S2 ⊢; have hc2 := b2.cell; have hf2 := b2.free; have hl2 := b2.lt; clear o1 g1 k1 o2 g2 k2 b2 hv))
      all_goals go_wp2
      all_goals
        go_end0
        exact ⟨rfl, _, S2⟩
set_option maxHeartbeats 1600000 in
theorem ws_nil (B : Nat) (va : Option Addr) (vn vc : Nat) (l : List Int) (w : World) (hbox : Box w B (.slice va vn vc)) (hown : Own w (.slice va vn vc) l) (hbd : l.length + 2 ≤ 70368744177664) :
    Calls Try.prog 26 #[.pointer (some ⟨B, 0, none⟩), .slice none 0 0] w fun e w' => e = .returned (.tuple #[]) ∧ ∃ v', Box w' B v' ∧ Own w' v' (l ++ quote []) ∧
      Kept (fun j => j = B ∨ some j = (Value.slice va vn vc).ownBlock) w w' ∧ Blk w (.slice va vn vc) v' := by
  obtain ⟨i0, hi, hz0, hz1, hz2⟩ := info_parts info5
  have hcB := hbox.cell
  have hfB := hbox.free
  have hltB := hbox.lt
  go_enter Try.func26, Try.ntmps26
  go_wp2_with (at_builtin; refine wpList_append_bytes _ rfl (.tmp 12) (.tmp 13) 22 22 rfl i0 Try.underlying22 hi hz0 hz1 hz2 _ l rfl (hown.alloc _) _ [34] rfl ((Rd.lit w [34] _ rfl (by simp [maxLen])).src Try.underlying22) ?b1 ?_)
  case b1 => simp; omega
  intro v1 w1 hown1 hgrow1 hblk1
  obtain ⟨hb1, S0⟩ := ws_start [] hbox hown hown1 hgrow1 hblk1
  obtain ⟨a1, n1, c1, hv1⟩ := hown1.form
  have hc1 := hb1.cell
  have hf1 := hb1.free
  have hl1 := hb1.lt
  clear hown1 hgrow1 hblk1 hb1 hcB hfB
  rw [hv1] at S0 ⊢
  clear hv1
  go_wp2
  refine wp_loop_rounds 1 ?_
  rw [rounds_succ]
  obtain ⟨wq, hwq⟩ : ∃ wq, wq = w1.setCell ⟨B, 0, none⟩ (.slice a1 n1 c1) := ⟨_, rfl⟩
  rw [← hwq] at S0 ⊢
  clear hwq hc1 hf1 hl1
  have hc1 := S0.box.cell
  have hf1 := S0.box.free
  have hl1 := S0.box.lt
  obtain ⟨bd1, _, bd3⟩ := ws_bd S0 (Nat.le_refl _) (by simp; omega)
  have hnl : Rd wq (.slice none 0 0) (((([] : List Int)).take 0).drop 0) := .inl ⟨rfl, rfl⟩
  have hlit := Rd.lit wq [34] #[.int .u8 34] rfl (by simp [maxLen])
  have hgl : ∀ w1 : World, (wq.alloc (.cells #[.int .u8 34] 5)).drew.grownBy w1 (Value.slice a1 n1 c1).ownBlock → Rd w1 (.slice (some ⟨wq.heap.size, 0, none⟩) 1 1) [34] := fun w1 hg =>
    hlit.drew.kept (Kept.grown hg) (fun j hj e => by cases hj; exact absurd (S0.own.lt wq.heap.size e.symm) (Nat.lt_irrefl _))
  clear hown hbox
  go_wp2
  go_region_law (first
    | (refine step_append_bytes wq.drew rfl (.tmp 62) (.tmp 65) 22 22 rfl i0 Try.underlying22 hi hz0 hz1 hz2 _ _ rfl S0.own.drew _ _ rfl (hnl.drew.src Try.underlying22) bd1 ?_; intro v1 w1 o1 g1 k1)
    | (refine step_append_bytes (wq.alloc (.cells #[.int .u8 34] 5)).drew rfl (.tmp 62) (.tmp 65) 22 22 rfl i0 Try.underlying22 hi hz0 hz1 hz2 _ _ rfl (S0.own.alloc _).drew _ _ rfl ((hnl.alloc _).drew.src Try.underlying22) bd1 ?_; intro v1 w1 o1 g1 k1)
    | (refine step_append_bytes (w1.alloc (.cells #[.int .u8 34] 5)) rfl (.tmp 66) (.tmp 67) 22 22 rfl i0 Try.underlying22 hi hz0 hz1 hz2 _ _ rfl (o1.alloc _) _ [34] rfl ((Rd.lit w1 [34] #[.int .u8 34] rfl (by simp [maxLen])).src Try.underlying22) bd3 ?_; intro v2 w2 o2 g2 k2; obtain ⟨b2, S2⟩ := ws_fin S0 rfl (Kept.drew wq _) o1 g1 k1 (Kept.alloc w1 _ _) o2 g2 k2; obtain ⟨a3, n3, c3, hv⟩ := o2.form; rw [hv] at S2 ⊢; have hc2 := b2.cell; have hf2 := b2.free; have hl2 := b2.lt; clear o1 g1 k1 o2 g2 k2 b2 hv)
    | (refine step_append_bytes w1 rfl (.tmp 66) (.tmp 67) 22 22 rfl i0 Try.underlying22 hi hz0 hz1 hz2 _ _ rfl o1 _ [34] rfl ((hgl w1 g1).src Try.underlying22) bd3 ?_; intro v2 w2 o2 g2 k2; obtain ⟨b2, S2⟩ := ws_fin S0 rfl ((Kept.alloc wq _ _).trans (Kept.drew _ _) (fun _ _ h => h) (fun _ _ h => h)) o1 g1 k1 (Kept.refl _ w1) o2 g2 k2; obtain ⟨a3, n3, c3, hv⟩ := o2.form; rw [hv] at S2 ⊢; have hc2 := b2.cell; have hf2 := b2.free; have hl2 := b2.lt; clear o1 g1 k1 o2 g2 k2 b2 hv))
  all_goals go_wp2
  all_goals
    go_end0
    exact ⟨rfl, _, S2⟩

/-- writeString: it appends the quoted spelling. -/
theorem ws_any (B : Nat) (v : Value) (l : List Int) (s : Value) (sl : List Int) (w : World) (hbox : Box w B v) (hown : Own w v l) (hs : Rd w s sl) (hsB : s.ownBlock ≠ some B)
    (hsv : ∀ k, s.ownBlock = some k → v.ownBlock ≠ some k) (hbd : l.length + 6 * sl.length + 2 ≤ 70368744177664) :
    Calls Try.prog 26 #[.pointer (some ⟨B, 0, none⟩), s] w fun e w' => e = .returned (.tuple #[]) ∧ ∃ v', Box w' B v' ∧ Own w' v' (l ++ quote sl) ∧ Kept (fun j => j = B ∨ some j = v.ownBlock) w w' ∧ Blk w v v' := by
  obtain ⟨va, vn, vc, rfl⟩ := hown.form
  have hs' := hs
  rcases hs with ⟨rfl, rfl⟩ | ⟨g, o, c, rfl, h1, h2, h3, h4⟩
  · exact ws_nil B va vn vc l w hbox hown (by simpa using hbd)
  · exact ws_some B va vn vc l g o sl.length c sl w hbox hown rfl hs' (fun e => hsB (by rw [← e]; rfl)) (hsv g rfl) hbd
end Go.Proofs.Qxb6603725a
