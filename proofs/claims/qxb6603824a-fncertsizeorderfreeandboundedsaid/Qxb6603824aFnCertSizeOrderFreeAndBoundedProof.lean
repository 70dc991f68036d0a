/-
  THE PROOF OF 'Rows.FnCertSizeOrderFreeAndBoundedSaid': the frame after the guide's template (as the shells of this seat have it), the signers opened by 'open_slice_pairs'; the walk: the text Qxb6603824aLaw3 beside this one
-/
import Derived.Test.Qxb6603824aRows
import Derived.WalkKit
import Derived.ProofKit
import Derived.OpenShut
import Derived.ShutString
import Derived.ChangeOld
import Derived.Below
import Derived.Deep.SlicePairs
import Derived.Test.Qxb6603824aLaw3
namespace Go.Proofs.Qxb6603824a.fnCertSizeOrderFreeAndBounded
open Go.ChangeShapes Go.WideShapes Go.ChangeAt Go.RowKit
open Go.ChangeMaps (open_string shut_string)
set_option linter.unusedVariables false

theorem own : ownKnob Try.prog.godebug = none := by kernel_rfl
theorem laidOut : laidOutB Try.prog = true := by kernel_rfl
theorem cells29 : Try.prog.cellsOf 29 = 2 := by kernel_rfl
theorem cells9 : Try.prog.cellsOf 9 = 1 := by kernel_rfl
theorem cells27 : Try.prog.cellsOf 27 = 1 := by kernel_rfl
theorem cells5 : Try.prog.cellsOf 5 = 1 := by kernel_rfl

theorem walk (a0 : Int) (v1 : Value) (n : Nat) (il sl : Nat → Nat) (w : World) (hs : SIn w v1 n il sl) (hn : n ≤ maxLen) :
    Calls Try.prog 3 #[.int .u32 a0, v1] w fun e w' => e = .returned (.bool true) ∧ Below w.heap.size w w' := law3 a0 v1 n il sl w hs hn

set_option maxRecDepth 100000 in
theorem lifted (os : Os) (started : os.Started) (H : Type) (enc : TypeId × Value → H) :
    ReturnsInHanded {} Try.checked os 3 .any (Rows.fnCertSizeOrderFreeAndBoundedSpec.pre6 enc Try.prog Try.f3 Rows.fnCertSizeOrderFreeAndBoundedRow.domain false) (Rows.fnCertSizeOrderFreeAndBoundedSpec.post enc Try.prog Try.f3 false true false false) := by
  refine returnsInHanded_of_change (C := Try.checked) own started (by kernel_rfl) Try.func3
    (ChangeSpec.witness6 (enc := enc) (C := Try.checked) false ⟨#[], #[.int .u32 0, .slice none 0 0], []⟩ 8 (by kernel_rfl) (by kernel_rfl) (by kernel_rfl) (by kernel_rfl)) ?_
  intro W base args ds gs before hval0 hW hcnd _
  have hval : ∀ (j : Nat) t v, Try.f3.params[j]? = some t → args[j]? = some v → Value.okWide Try.prog W .any base t v := hval0
  have hW' := hW
  obtain ⟨p, q, hA0, hV, rfl, hfz, hnd⟩ := hW
  have hA : DataW.TrodAll enc Try.prog W 0 (fun _ => true) true Try.f3.params.toList args.toList ds p := hA0
  rw [Try.params3] at hA hval
  obtain ⟨v0, vs0, d0, ds0, p0, q0, hargs, rfl, rfl, h0, r0⟩ := trodAll_cons hA
  obtain ⟨v1, vs1, d1, ds1, p1, q1, rfl, rfl, rfl, h1, r1⟩ := trodAll_cons r0
  obtain ⟨rfl, rfl, rfl⟩ := trodAll_nil r1
  obtain rfl : args = #[v0, v1] := by cases args; simp_all
  obtain ⟨rfl, rfl⟩ := trodVars_none hV
  obtain ⟨a0, rfl, rfl, rfl, w0⟩ := open_int Try.underlying22 (hval 0 22 v0 rfl rfl) h0
  have k1 := h1
  have lt1 : ∀ x ∈ p1, x.block < W.heap.size := by obtain ⟨m, hm⟩ := k1; exact DataW.trod_lt m _ _ _ hm
  obtain ⟨n, il, sl, hs, hn⟩ : ∃ n il sl, SIn W v1 n il sl ∧ n ≤ maxLen := by
    obtain ⟨a1, len1, cap1, rfl⟩ := okWide_slice Try.underlying23 (hval 1 23 v1 rfl rfl)
    obtain ⟨fuel, hf⟩ := h1
    rcases Deep.open_slice_pairs Try.underlying23 Try.underlying29 cells29 rfl rfl cells9 cells27 hf with ⟨hcs, _⟩ | ⟨x, l, c, m, nn, V0, V1, D0, D1, P0, P1, hcs, _, hl, hm, hmm, _, hx⟩
    · simp [Value.cells] at hcs
      obtain ⟨rfl, rfl, rfl⟩ := hcs
      exact ⟨0, fun _ => 0, fun _ => 0, .inl ⟨rfl, rfl⟩, Nat.zero_le _⟩
    · simp [Value.cells] at hcs
      obtain ⟨rfl, rfl, rfl⟩ := hcs
      have hml : len1 ≤ m := by rw [hmm]; simpa using hl
      obtain ⟨f, hfq⟩ := Deep.choose_lt (α := Nat × Nat) (n := len1) (p := fun i q => ∃ s a d, W.cell? (x.add (i * 2)) = some (.string s) ∧ s.size = q.1 ∧ W.cell? (x.add (i * 2 + 1)) = some (.slice a q.2 d) ∧ q.1 ≤ maxLen ∧ q.2 ≤ maxLen ∧
          ((a = none ∧ q.2 = 0) ∨ ∃ y, a = some y ∧ ∀ j, j < q.2 → ∃ z, W.cell? (y.add j) = some (.int .u8 z))) (fun i hi => by
        obtain ⟨c0, c1, t0, t1⟩ := hx i (by omega)
        obtain ⟨s, e0, _, hs⟩ := DataW.trod_string Try.underlying9 t0
        simp at e0
        rcases open_ints Try.underlying27 Try.underlying5 cells5 t1 with ⟨e1, _⟩ | ⟨y, l', c', zs, e1, _, hl', hm', hz', _, hcell', _⟩
        · simp at e1
          exact ⟨(s.size, 0), s, none, 0, by rw [c0, e0], rfl, by rw [c1, e1], hs, Nat.zero_le _, .inl ⟨rfl, rfl⟩⟩
        · simp at e1
          exact ⟨(s.size, l'), s, some y, c', by rw [c0, e0], rfl, by rw [c1, e1], hs, by simp only; omega, .inr ⟨y, rfl, fun j hj => ⟨_, hcell' j (by simp only at hj; have := hz'; simp at this; omega)⟩⟩⟩)
      exact ⟨len1, fun i => (f i).1, fun i => (f i).2, .inr ⟨x, cap1, rfl, fun i hi => hfq i hi⟩, Nat.le_trans hl hm⟩
  clear hA0 hval0
  refine (walk a0 v1 n il sl W hs hn).mono fun e W' ⟨he, bel⟩ => ?_
  subst he
  exact ⟨_, rfl, _, _, _, [], _, [], hW', trodAll_mk1 (shut_bool Try.underlying4 _), (trodAll_cons_mk (shut_int Try.underlying22 w0) (trodAll_cons_mk (Below.trod laidOut (by kernel_rfl) (of_decide_eq_true (by kernel_rfl)) k1 bel lt1) trodAll_mk0)), rfl, bel.frame _, fun h => by cases h⟩

theorem over : Rows.fnCertSizeOrderFreeAndBoundedRow.holds Try.pinned (OpenSpec.ofChange Rows.fnCertSizeOrderFreeAndBoundedSpec) :=
  OpenClaim.holds_of_wide 3 Try.f3 rfl rfl rfl rfl rfl rfl rfl ⟨rfl, rfl, rfl, rfl, rfl⟩ rfl rfl rfl rfl rfl (by kernel_rfl) Try.func3 (by kernel_rfl)
    (of_decide_eq_true (by kernel_rfl)) (by unfold Func.isWrapper; first | (rw [if_pos (by decide +kernel)]; kernel_rfl) | (rw [if_neg (by decide +kernel)]; exact ⟨rfl, rfl⟩))
    (fun os started H enc _ => lifted os started H enc)

/-- ████ THE STATEMENT ████ -/
theorem proved : Rows.FnCertSizeOrderFreeAndBoundedSaid := over
#print axioms proved
end Go.Proofs.Qxb6603824a.fnCertSizeOrderFreeAndBounded
