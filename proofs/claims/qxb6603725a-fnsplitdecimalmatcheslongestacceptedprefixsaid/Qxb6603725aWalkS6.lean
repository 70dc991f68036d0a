/-
  THE WALKS, S: ZZSplitDecimal (20).
-/
import Derived.Test.Qxb6603725aWalkS5
namespace Go.Proofs.Qxb6603725a
open Go.RowKit
set_option maxRecDepth 100000

/-- Where nothing is handed back. -/
def Zc (l : List Int) : Prop := at0 l = 0 ∨ expo (l.drop (at1 l)) = some 0
/-- Where the split of the first p bytes is. -/
def Sc (l : List Int) (p : Nat) : Prop := at0 l ≠ 0 ∧ ((expo (l.drop (at1 l)) = none ∧ p = at1 l) ∨ ∃ q, 1 ≤ q ∧ expo (l.drop (at1 l)) = some q ∧ p = at1 l + q)

theorem sd_z (v : Value) (l : List Int) (w : World) (h : Rd w v l) (hmax : l.length ≤ 1048576) (hz : Zc l) : Calls Try.prog 27 #[v] w fun e w' => e = zeroOut ∧ Kept (fun _ => False) w w' := by
  refine (sd_any v l w h hmax).mono fun e w' ⟨h1, h2⟩ => ⟨?_, h2⟩
  unfold SD at h1
  by_cases h0 : at0 l = 0
  · rw [if_pos h0] at h1; exact h1
  · rw [if_neg h0] at h1
    rcases hz with hz | hz
    · exact absurd hz h0
    · rw [hz] at h1; exact h1
theorem sd_s (v : Value) (l : List Int) (p : Nat) (w : World) (h : Rd w v l) (hmax : l.length ≤ 1048576) (hs : Sc l p) : Calls Try.prog 27 #[v] w fun e w' => SplitOut l l.length (at0 l) (at1 l) p (hasPt l) e w' ∧ Kept (fun _ => False) w w' := by
  refine (sd_any v l w h hmax).mono fun e w' ⟨h1, h2⟩ => ⟨?_, h2⟩
  unfold SD at h1
  obtain ⟨h0, hs⟩ := hs
  rw [if_neg h0] at h1
  rcases hs with ⟨hx, rfl⟩ | ⟨q, hq, hx, rfl⟩
  · rw [hx] at h1; exact h1
  · rw [hx] at h1
    cases q with
    | zero => omega
    | succ m => exact h1

/-- ZZSplitDecimal: the parts one by one. -/
theorem zzsd_z (v : Value) (l : List Int) (w : World) (h : Rd w v l) (hmax : l.length ≤ 1048576) (hz : Zc l) :
    Calls Try.prog 20 #[v] w fun e w' => e = .returned (.tuple #[.slice none 0 0, .bool false, .slice none 0 0, .slice none 0 0, .bool false]) ∧ Kept (fun _ => False) w w' := by
  go_enter Try.func20, Try.ntmps20
  go_wp2_with (go_at_call 27; refine (sd_z _ l _ h hmax hz).mono ?_; rintro e w1 ⟨rfl, k1⟩; unfold zeroOut)
  go_quiet (fail)
  go_wp2
  exact bodyPost_ret (v := .tuple #[.slice none 0 0, .bool false, .slice none 0 0, .slice none 0 0, .bool false]) (by simp [results, Try.results20, go_sem]) rfl ⟨rfl, (k1.trans (Kept.alloc w1 _ (fun _ => False)) (T := fun _ => False) (fun _ _ h => h) (fun _ _ h => h)).trans (Kept.drewN _ _ (fun _ => False)) (fun _ _ h => h) (fun _ _ h => h)⟩

theorem zzsd_s (v : Value) (l : List Int) (p : Nat) (w : World) (h : Rd w v l) (hmax : l.length ≤ 1048576) (hs : Sc l p) :
    Calls Try.prog 20 #[v] w fun e w' => (∃ W F E, e = .returned (.tuple #[W, .bool (hasPt l), F, E, .bool (decide (p = l.length))]) ∧ Rd w' W (l.take (at0 l)) ∧ Rd w' F ((l.take (at1 l)).drop (at0 l + 1)) ∧ Rd w' E ((l.take p).drop (at1 l + 1))) ∧ Kept (fun _ => False) w w' := by
  generalize hD : decide (p = l.length) = ok
  have HD : Hid (decide (p = l.length) = ok) := hD
  clear hD
  have hsd := sd_s v l p w h hmax hs
  generalize hasPt l = pt at hsd ⊢
  go_enter Try.func20, Try.ntmps20
  go_wp2_with fail
  refine hsd.mono ?_
  rintro e w1 ⟨⟨W, F, E, rfl, rW, rF, rE⟩, k1⟩
  rw [HD.out]
  have K : ∀ (o : Obj) (q : Nat), Kept (fun _ => False) w1 ((w1.alloc o).drewN q) := fun o q => (Kept.alloc w1 o (fun _ => False)).trans (Kept.drewN _ _ (fun _ => False)) (fun _ _ h => h) (fun _ _ h => h)
  obtain ⟨aW, cW, hW⟩ := rW.form
  obtain ⟨aF, cF, hF⟩ := rF.form
  obtain ⟨aE, cE, hE⟩ := rE.form
  have RW : Hid (Rd w1 W (l.take (at0 l))) := rW
  have RF : Hid (Rd w1 F ((l.take (at1 l)).drop (at0 l + 1))) := rF
  have RE : Hid (Rd w1 E ((l.take p).drop (at1 l + 1))) := rE
  generalize hnW : (l.take (at0 l)).length = nW at hW
  generalize hnF : ((l.take (at1 l)).drop (at0 l + 1)).length = nF at hF
  generalize hnE : ((l.take p).drop (at1 l + 1)).length = nE at hE
  rw [hW] at RW ⊢
  rw [hF] at RF ⊢
  rw [hE] at RE ⊢
  clear rW rF rE hW hF hE hnW hnF hnE hsd hs h
  go_wp2_with fail
  go_quiet (fail)
  go_wp2
  exact bodyPost_ret (v := .tuple #[.slice aW nW cW, .bool pt, .slice aF nF cF, .slice aE nE cE, .bool ok]) (by simp [results, Try.results20, go_sem]) rfl ⟨⟨_, _, _, rfl, RW.out.kept (K _ _) (fun _ _ h => h), RF.out.kept (K _ _) (fun _ _ h => h), RE.out.kept (K _ _) (fun _ _ h => h)⟩, k1.trans (K _ _) (fun _ _ h => h) (fun _ _ h => h)⟩
end Go.Proofs.Qxb6603725a
