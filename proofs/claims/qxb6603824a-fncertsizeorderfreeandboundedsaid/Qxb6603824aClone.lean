/-
  THE WALK OF cloneSgns (8).
-/
import Derived.Test.Qxb6603824aToCert
namespace Go.Proofs.Qxb6603824a
open Go.RowKit
set_option maxRecDepth 100000

/-- A row of n bytes of the call's own. -/
def Row1 (w : World) (g n : Nat) : Prop := ∃ cur : Array Value, w.heap[g]? = some (.cells cur 5 (0, 0)) ∧ cur.size = n
theorem Row1.cell {w : World} {g n : Nat} (h : Row1 w g n) {j : Nat} (hj : j < n) : ∃ v, w.cell? ⟨g, j, none⟩ = some v := by
  obtain ⟨cur, h1, h2⟩ := h
  rw [cell_of_row w g j cur 5 (0, 0) h1]
  exact ⟨cur[j]'(by omega), Array.getElem?_eq_getElem _⟩
theorem Row1.free {w : World} {g n : Nat} (h : Row1 w g n) (j : Nat) : w.frozen? ⟨g, j, none⟩ = false := by
  obtain ⟨cur, h1, _⟩ := h
  exact frozen_of_row w g j cur 5 h1
theorem Row1.set {w : World} {g n : Nat} (h : Row1 w g n) (j : Nat) (u : Value) : Row1 (w.setCell ⟨g, j, none⟩ u) g n := by
  obtain ⟨cur, h1, h2⟩ := h
  exact ⟨cur.setIfInBounds j u, heap_setCell_same w g j cur 5 u h1, by simpa using h2⟩
theorem Row1.made {w : World} {base g n : Nat} {xs : List Value} (h : w.ownsRow base 5 1 (.slice (some ⟨g, 0, none⟩) n n) n xs) : Row1 w g n := by
  rcases h.2 with ⟨h, _⟩ | ⟨g', cap, cur, h1, _, h3, h4, h5, h6, _⟩
  · cases h
  · cases h1
    exact ⟨cur, h3, by omega⟩
theorem Row1.lt {w : World} {g n : Nat} (h : Row1 w g n) : g < w.heap.size := by
  obtain ⟨cur, h1, _⟩ := h
  exact lt_of_block h1

theorem info5 : (Try.prog.info? 5).map (fun i => (i.zero, i.size, i.bytes)) = some (some (.int .u8 0), 1, 1) := by kernel_rfl

/-- element i of what came in, its address said plainly -/
def Ei (w : World) (b o : Nat) (i p q : Nat) : Prop := ∃ s a d, w.cell? ⟨b, o + i * 2, none⟩ = some (.string s) ∧ s.size = p ∧ w.cell? ⟨b, o + i * 2 + 1, none⟩ = some (.slice a q d) ∧
  ((a = none ∧ q = 0) ∨ ∃ y, a = some y ∧ ∀ j, j < q → ∃ z, w.cell? (y.add j) = some (.int .u8 z))

theorem clone_nil (w : World) : Calls Try.prog 8 #[.slice none 0 0] w fun e w' => e = .returned (.slice none 0 0) ∧ w = w' := by
  have q23 : ∀ (w : World) (a : Option Addr) (n c n' c' : Nat), (binOp .eql 23 (.slice a n c) (.slice none n' c')).run Try.prog w = .ok (.bool a.isNone) w := fun w a n c n' c' => Lib.run_eql_slice_nil w _ _ a n c n' c' Try.underlying23
  go_enter Try.func8, Try.ntmps8
  go_wp2
  go_ret
  exact ⟨rfl, rfl⟩

theorem clone_empty (x : Addr) (c : Nat) (il sl : Nat → Nat) (w : World) : Calls Try.prog 8 #[.slice (some x) 0 c] w fun e w' => ∃ g c', e = .returned (.slice (some ⟨g, 0, none⟩) 0 c') ∧ SRd w' (.slice (some ⟨g, 0, none⟩) 0 c') 0 il sl ∧ Old w w' := by
  obtain ⟨ti, hi, hz0, hz1, hz2⟩ := info_parts info29
  have q23 : ∀ (w : World) (a : Option Addr) (n c n' c' : Nat), (binOp .eql 23 (.slice a n c) (.slice none n' c')).run Try.prog w = .ok (.bool a.isNone) w := fun w a n c n' c' => Lib.run_eql_slice_nil w _ _ a n c n' c' Try.underlying23
  go_enter Try.func8, Try.ntmps8
  go_wp2_with (at_make; refine wpList_make_full _ rfl _ _ 23 rfl 0 29 ti _ 2 Try.underlying23 hi hz0 hz1 _ _ _ _ 0 rfl rfl (by simp) (by simp) ?b2 ?b3 (Nat.zero_le _) ?_)
  case b2 => rw [hz2]; omega
  case b3 => unfold maxLen; omega
  intro w1 hown hgrow
  have hR : Row2 w1 w.heap.size 29 0 (fun _ => False) il sl := Row2.made hown
  have hO : Old w w1 := (Old.refl w).made hgrow
  clear hown hgrow
  go_wp2
  refine wp_loop_rounds 1 ?_
  rw [rounds_succ]
  go_wp2
  go_ret
  exact ⟨_, _, rfl, hR.full (fun i hi => by omega) _, hO⟩

set_option maxHeartbeats 1600000 in
theorem clone_some (b o n c : Nat) (il sl : Nat → Nat) (w : World) (hn : n ≤ 65536) (hb : b < w.heap.size) (hsm : ∀ i, i < n → sl i ≤ 1048576) (hel : ∀ i, i < n → Ei w b o i (il i) (sl i)) :
    Calls Try.prog 8 #[.slice (some ⟨b, o, none⟩) n c] w fun e w' => ∃ g c', e = .returned (.slice (some ⟨g, 0, none⟩) n c') ∧ SRd w' (.slice (some ⟨g, 0, none⟩) n c') n il sl ∧ Old w w' := by
  obtain ⟨ti, hi, hz0, hz1, hz2⟩ := info_parts info29
  obtain ⟨t5, hi5, hy0, hy1, hy2⟩ := info_parts info5
  have q23 : ∀ (w : World) (a : Option Addr) (n c n' c' : Nat), (binOp .eql 23 (.slice a n c) (.slice none n' c')).run Try.prog w = .ok (.bool a.isNone) w := fun w a n c n' c' => Lib.run_eql_slice_nil w _ _ a n c n' c' Try.underlying23
  have q27 : ∀ (w : World) (a : Option Addr) (n c n' c' : Nat), (binOp .neq 27 (.slice a n c) (.slice none n' c')).run Try.prog w = .ok (.bool (!a.isNone)) w := fun w a n c n' c' => run_neq_slice_nil_any w _ _ a n c n' c' Try.underlying27
  go_enter Try.func8, Try.ntmps8
  go_wp2_with (at_make; refine wpList_make_full _ rfl _ _ 23 rfl 0 29 ti _ 2 Try.underlying23 hi hz0 hz1 _ _ _ _ n rfl rfl (by omega) (by omega) ?b2 ?b3 (Nat.zero_le _) ?_)
  case b2 => rw [hz2]; omega
  case b3 => unfold maxLen; omega
  intro w1 hown hgrow
  have hR : Row2 w1 w.heap.size 29 n (fun _ => False) il sl := Row2.made hown
  have hO : Old w w1 := (Old.refl w).made hgrow
  clear hown hgrow
  go_wp2
  go_loopw [4] (fun is wr => ∃ k : Nat, k ≤ n ∧ is = .int .i64 k ∧ Row2 wr w.heap.size 29 n (fun i => i < k) il sl ∧ Old w wr) (fun is _ => n - (intOf is).toNat)
  case atStart => exact ⟨0, Nat.zero_le _, rfl, hR.mono (fun i _ h => by omega), hO⟩
  case round =>
    obtain ⟨k, hk, rfl, hR, hO⟩ := hrel
    by_cases hlt : k < n
    · obtain ⟨s, a, d, c0, hs, c1, hsig⟩ := hel k hlt
      have hqm := hsm k hlt
      rw [← hO.cell (p := ⟨b, o + k * 2, none⟩) hb] at c0
      rw [← hO.cell (p := ⟨b, o + k * 2 + 1, none⟩) hb] at c1
      have hbr : b < wr.heap.size := Nat.lt_of_lt_of_le hb hO.size
      have hGr := hR.lt
      rcases hsig with ⟨rfl, hq0⟩ | ⟨y, rfl, hy⟩
      · -- no signature
        obtain ⟨x0, hx0⟩ := hR.cell (j := k * 2) (by omega)
        obtain ⟨x1, hx1⟩ := hR.cell (j := k * 2 + 1) (by omega)
        have f0 := hR.free (k * 2)
        have f1 := hR.free (k * 2 + 1)
        have HSET : Hid (Row2 ((wr.setCell ⟨w.heap.size, k * 2, none⟩ (.string s)).setCell ⟨w.heap.size, k * 2 + 1, none⟩ (.slice none 0 0)) w.heap.size 29 n (fun i => i < k ∨ i = k) il sl) := hR.set hlt hs hq0.symm
        have HO2 : Hid (Old w ((wr.setCell ⟨w.heap.size, k * 2, none⟩ (.string s)).setCell ⟨w.heap.size, k * 2 + 1, none⟩ (.slice none 0 0))) := (hO.setCell (by simp) _).setCell (by simp) _
        rw [hq0] at c1
        clear hel hsm hR hs hq0 hqm hO
        go_wp2
        go_roundw
        case rel => exact ⟨k + 1, by omega, by go_num, HSET.out.mono (fun i _ h => by omega), HO2.out⟩
        case measure => simp [intOf]; omega
      · obtain ⟨wo, rfl⟩ : ∃ wo : World, wo = wr := ⟨_, rfl⟩
        by_cases hq0 : sl k = 0
        · -- an empty signature that is not nil
          have HQ : Hid (0 = sl k) := hq0.symm
          have hB0 : t5.bytes * 0 ≤ 281474976710656 := by omega
          have hM0 : 0 ≤ maxLen := Nat.zero_le _
          rw [hq0] at c1
          clear hq0 hqm hy
          go_wp2_with (at_make; refine wpList_make_full _ rfl _ _ 27 rfl 0 5 t5 (.int .u8 0) 1 Try.underlying27 hi5 hy0 hy1 _ _ _ _ 0 rfl rfl (by simp) (by simp) hB0 hM0 (Nat.zero_le _) ?_)
          intro wi hown hgrow
          have hOi : Old wo wi := (Old.refl wo).made hgrow
          have hR2 := hR.old hOi
          have c1' : wi.cell? ⟨b, o + k * 2 + 1, none⟩ = some (.slice (some y) 0 d) := by rw [hOi.cell (p := ⟨b, o + k * 2 + 1, none⟩) hbr]; exact c1
          clear hown hgrow
          go_wp2
          refine wp_loop_rounds 1 ?_
          rw [rounds_succ]
          obtain ⟨x0, hx0⟩ := hR2.cell (j := k * 2) (by omega)
          obtain ⟨x1, hx1⟩ := hR2.cell (j := k * 2 + 1) (by omega)
          have f0 := hR2.free (k * 2)
          have f1 := hR2.free (k * 2 + 1)
          have hbi : b < wi.heap.size := Nat.lt_of_lt_of_le hbr hOi.size
          have d0 : wi.cell? ⟨b, o + k * 2, none⟩ = some (.string s) := by rw [hOi.cell (p := ⟨b, o + k * 2, none⟩) hbr]; exact c0
          have d1 : wi.cell? ⟨b, o + k * 2 + 1, none⟩ = some (.slice (some y) 0 d) := by rw [hOi.cell (p := ⟨b, o + k * 2 + 1, none⟩) hbr]; exact c1
          have HSET : Hid (Row2 ((wi.setCell ⟨w.heap.size, k * 2, none⟩ (.string s)).setCell ⟨w.heap.size, k * 2 + 1, none⟩ (.slice (some ⟨wo.heap.size, 0, none⟩) 0 0)) w.heap.size 29 n (fun i => i < k ∨ i = k) il sl) := hR2.set hlt hs HQ.out
          have HO2 : Hid (Old w ((wi.setCell ⟨w.heap.size, k * 2, none⟩ (.string s)).setCell ⟨w.heap.size, k * 2 + 1, none⟩ (.slice (some ⟨wo.heap.size, 0, none⟩) 0 0))) := ((hO.trans hOi).setCell (by simp) _).setCell (by simp) _
          clear hel hsm hR hR2 hs hO hOi c0 c1
          go_wp2
          go_roundw
          case rel => exact ⟨k + 1, by omega, by go_num, HSET.out.mono (fun i _ h => by omega), HO2.out⟩
          case measure => simp [intOf]; omega
        · -- a signature of q bytes
          obtain ⟨z0, hz0'⟩ := hy 0 (by omega)
          obtain ⟨by', oy, rfl⟩ := addr_plain hz0'
          have hbY : by' < w.heap.size := by
            have := block_lt_of_cell hz0'
            simpa [Addr.add] using this
          have hyy : ∀ j, j < sl k → ∃ z, wo.cell? ⟨by', oy + j, none⟩ = some (.int .u8 z) := fun j hj => by
            obtain ⟨z, hz⟩ := hy j hj
            rw [add_plain'] at hz
            exact ⟨z, by rw [hO.cell (p := ⟨by', oy + j, none⟩) hbY]; exact hz⟩
          have hbYo : by' < wo.heap.size := Nat.lt_of_lt_of_le hbY hO.size
          obtain ⟨q, hq⟩ : ∃ q, q = sl k := ⟨_, rfl⟩
          have HQ : Hid (q = sl k) := hq
          rw [← hq] at c1 hqm hyy hq0
          clear hy hz0' hq
          have HYY : Hid (∀ j, j < q → ∃ z, wo.cell? ⟨by', oy + j, none⟩ = some (.int .u8 z)) := hyy
          clear hyy
          have hBq : t5.bytes * q ≤ 281474976710656 := by rw [hy2]; omega
          have hMq : q ≤ maxLen := by unfold maxLen; omega
          go_wp2_with (at_make; refine wpList_make_full _ rfl _ _ 27 rfl 0 5 t5 (.int .u8 0) 1 Try.underlying27 hi5 hy0 hy1 _ _ _ _ q rfl rfl (by omega) (by omega) hBq hMq (Nat.zero_le _) ?_)
          intro wm hown hgrow
          have hOm : Old wo wm := (Old.refl wo).made hgrow
          have hRm : Row1 wm wo.heap.size q := Row1.made hown
          clear hown hgrow
          go_wp2
          go_loopw [6] (fun js wi => ∃ j : Nat, j ≤ q ∧ js = .int .i64 j ∧ Row1 wi wo.heap.size q ∧ Old wo wi) (fun js _ => q - (intOf js).toNat)
          case atStart => exact ⟨0, Nat.zero_le _, rfl, hRm, hOm⟩
          case round =>
            clear hRm hOm
            obtain ⟨j, hj, rfl, hRi, hOi⟩ := hrel
            obtain ⟨wi, rfl⟩ : ∃ wi : World, wi = wr := ⟨_, rfl⟩
            by_cases hlt' : j < q
            · obtain ⟨z, hz⟩ := HYY.out j hlt'
              have e1 : wi.cell? ⟨b, o + k * 2 + 1, none⟩ = some (.slice (some ⟨by', oy, none⟩) q d) := by rw [hOi.cell (p := ⟨b, o + k * 2 + 1, none⟩) hbr]; exact c1
              have e2 : wi.cell? ⟨by', oy + j, none⟩ = some (.int .u8 z) := by rw [hOi.cell (p := ⟨by', oy + j, none⟩) hbYo]; exact hz
              obtain ⟨x0, hx0⟩ := hRi.cell hlt'
              have f0 := hRi.free j
              have HSET : Hid (Row1 (wi.setCell ⟨wo.heap.size, j, none⟩ (.int .u8 z)) wo.heap.size q) := hRi.set j _
              have HO2 : Hid (Old wo (wi.setCell ⟨wo.heap.size, j, none⟩ (.int .u8 z))) := hOi.setCell (by simp) _
              clear hz hRi hOi hel hsm hR hO c0 c1 hs
              go_wp2
              go_roundw
              case rel => exact ⟨j + 1, by omega, by go_num, HSET.out, HO2.out⟩
              case measure => simp [intOf]; omega
            · have hR2 := hR.old hOi
              clear hRi
              obtain ⟨x0, hx0⟩ := hR2.cell (j := k * 2) (by omega)
              obtain ⟨x1, hx1⟩ := hR2.cell (j := k * 2 + 1) (by omega)
              have f0 := hR2.free (k * 2)
              have f1 := hR2.free (k * 2 + 1)
              have hbi : b < wi.heap.size := Nat.lt_of_lt_of_le hbr hOi.size
              have d0 : wi.cell? ⟨b, o + k * 2, none⟩ = some (.string s) := by rw [hOi.cell (p := ⟨b, o + k * 2, none⟩) hbr]; exact c0
              have d1 : wi.cell? ⟨b, o + k * 2 + 1, none⟩ = some (.slice (some ⟨by', oy, none⟩) q d) := by rw [hOi.cell (p := ⟨b, o + k * 2 + 1, none⟩) hbr]; exact c1
              have HSET : Hid (Row2 ((wi.setCell ⟨w.heap.size, k * 2, none⟩ (.string s)).setCell ⟨w.heap.size, k * 2 + 1, none⟩ (.slice (some ⟨wo.heap.size, 0, none⟩) q q)) w.heap.size 29 n (fun i => i < k ∨ i = k) il sl) := hR2.set hlt hs HQ.out
              have HO2 : Hid (Old w ((wi.setCell ⟨w.heap.size, k * 2, none⟩ (.string s)).setCell ⟨w.heap.size, k * 2 + 1, none⟩ (.slice (some ⟨wo.heap.size, 0, none⟩) q q))) := ((hO.trans hOi).setCell (by simp) _).setCell (by simp) _
              clear hel hsm hR hR2 hs hO hOi c0 c1
              go_wp2
              go_roundw
              case rel => exact ⟨k + 1, by omega, by go_num, HSET.out.mono (fun i _ h => by omega), HO2.out⟩
              case measure => simp [intOf]; omega
    · obtain rfl : k = n := by omega
      clear hel hsm
      go_wp2
      go_ret
      exact ⟨_, _, rfl, hR.full (fun i hi => hi) _, hO⟩
end Go.Proofs.Qxb6603824a
